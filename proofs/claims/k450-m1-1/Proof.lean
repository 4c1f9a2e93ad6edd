import JvmDerived
import JvmDerived.Pilot.@@N@@Statement
import JvmDerived.Pilot.@@N@@Code
set_option linter.unusedVariables false
set_option linter.unusedSimpArgs false
namespace Jvm.RoadKit
open Sem ClassFile Op Lib Jvm.Stand Jvm.Free Jvm.LawKit
section New
variable {p : Program} {l : Launch} {e : Env} {R : Room} {s : State} {m : MethodId} {args : Array Value} {below : List Frame} {meth : Method} {c : Code} {T : State} {locs : List Loc} {cells slots : Nat}
theorem retI (X : Stand p l e R s m args below meth c T locs cells slots) (hx : p.tables.exec = Jvm.exec) {pc : Nat} {Ls : Array Slot} {z : Int32} {rest : List Value} (hret : meth.sig.returnType = some .int) (hd : decode c.code pc = .ok (.ireturn, 1)) {fs : List Frame}
    (hl : ∀ (f : JFrame) (acts : List Action), f.method = m → f.locked = none → f.entered = [] → (doReturn e (T.setTop f) acts (some (.int z))).1 = T.setFrames fs) : Steps p.tables e below (T.setTop (mkF m pc Ls (.int z :: rest))) (T.setFrames fs) := by
  have hm' : T.vm.method? m = some meth := X.method'
  have hn : narrow .int (.int z) = .int z := rfl
  show Steps p.tables e below (T.setTop { method := m, pc := pc, locals := Ls, stack := _ :: rest, locked := none }) _
  jvm_step X.here [X.here.top, hx, hd, hm', hret, hn]
  first | (intro acts; rw [hl _ acts rfl rfl rfl]) | rw [hl _ _ rfl rfl rfl]
  exact Steps.refl _
end New
end Jvm.RoadKit
namespace Jvm.Pilot.@@N@@
open Jvm Jvm.ClassFile Sem Op Lib Jvm.Free Jvm.Stand Jvm.LawKit Jvm.RoadKit Bundle Jvm.Pilot.@@N@@.Jvm.D
/-- from the state A the run comes to the state B -/
def own_go (p : Program) (e : Env) (below : List Frame) (A B : State) : Prop := ∀ t, Steps p.tables e below B t → Steps p.tables e below A t
theorem own_wide {p : Program} {l : Launch} {e : Env} {R : Room} {s : State} {m : MethodId} {args : Array Value} {below : List Frame} {meth : Method} {c : Code} {T : State} {locs : List Loc} {cells slots k n : Nat} (X : Stand p l e R s m args below meth c T locs cells slots) (h1 : cells ≤ k) (h2 : slots ≤ n) : Stand p l e R s m args below meth c T locs k n :=
  { X with same := X.same.weaken (fun _ h _ => h) h1 h2 }
theorem own_hp {T : State} {h : Heap} {a : Addr} {c : Cell} (e : T.heap = h) (q : h[a]? = some c) : T.heap[a]? = some c := by rw [e]; exact q
theorem own_getD {α : Type} (f : α → Value) : ∀ (l : List α) (d : α) (k : Nat), (l.map f).getD k (f d) = f (l.getD k d)
  | [], _, _ => rfl
  | _ :: _, _, 0 => rfl
  | _ :: t, d, k + 1 => own_getD f t d k
theorem d11_0 : decode jdk_29_method_69_code 0 = .ok (.iload_n 0, 1) := by decide +kernel
theorem d11_1 : decode jdk_29_method_69_code 1 = .ok (.iload_n 1, 1) := by decide +kernel
theorem d11_2 : decode jdk_29_method_69_code 2 = .ok (.if_icmp .gt 7, 3) := by decide +kernel
theorem d11_9 : decode jdk_29_method_69_code 9 = .ok (.iload_n 1, 1) := by decide +kernel
theorem d11_5 : decode jdk_29_method_69_code 5 = .ok (.iload_n 0, 1) := by decide +kernel
theorem d11_6 : decode jdk_29_method_69_code 6 = .ok (.goto 4, 3) := by decide +kernel
theorem d11_10 : decode jdk_29_method_69_code 10 = .ok (.ireturn, 1) := by decide +kernel
theorem ef_11 (m : MethodId) (x0 : Int32) (x1 : Int32) : entryFrame m #[(.int x0), (.int x1)] 2 = mkF m 0 #[.val (.int x0), .val (.int x1)] [] := by first | (simp [entryFrame, mkF, argsToLocals, Value.category]; done) | rfl
def Q11 (Z : State) (p1 : Int32) (p2 : Int32) (h0 : Heap) (n0 : Nat) (v : Option Value) (h : Heap) (L : List Loc) : Prop := v = some (.int (if p2 < p1 then p2 else p1)) ∧ Fr n0 L ∧ h = h0
set_option maxRecDepth 65536 in
set_option maxHeartbeats 40000000 in
theorem rm11 (l : Launch) (Z : State) (a0 : Array Value) (hw : ∀ d ∈ tables_1, d.before a0 Z = true) (ws : List Jvm.Cond) (p1 : Int32) (p2 : Int32) (h0 : Heap) (n0 : Nat) (Z0 : n0 ≤ h0.size) :
    MetFree l (⟨"java/lang/Math", "min", "(II)I"⟩ : MethodName) (head1 (Jvm.Cond.code (⟨"java/lang/Math", "min", "(II)I"⟩ : MethodName) jdk_29_method_69_code 2 (some .int) :: ws) ({ frames := 0, cells := 0, slots := 0, locals := 0 } : Room)) (fun aax UU => aax = #[(.int p1), (.int p2)] ∧ Z.Warmed39 UU.vm ∧ UU.heap = h0) (fun _ _ _ _ _ => True) (fun _ UU oux UU' => ∃ rvx Lrx, oux = .returned rvx ∧ Q11 Z p1 p2 h0 n0 rvx UU'.heap Lrx ∧ FrameEnd UU oux UU' Lrx ({ frames := 0, cells := 0, slots := 0, locals := 0 } : Room).cells ({ frames := 0, cells := 0, slots := 0, locals := 0 } : Room).slots) := by
  refine MetFree.of_bodySF (Jvm.Free.JP.mathPlain rfl (by decide +kernel)) hisR ?_
  intro p e s m args below meth c s₁ Bd hml0 hP hK
  obtain ⟨rfl, hZ, hh⟩ := hP
  have hx := Bd.exec
  have hby := Bd.bytes
  have hml : c.maxLocals = 2 := hml0
  have hown : s.vm.findClass "java/lang/Math" = some m.cls := findClass_of_methodNamed Bd.named
  have hnm := (name_of_methodNamed Bd.named Bd.method).1
  have X0 : Stand p l e ({ frames := 0, cells := 0, slots := 0, locals := 0 } : Room) s m #[(.int p1), (.int p2)] below meth c s₁ [] 0 0 := Stand.of_body Bd
  have e0 : s₁.heap = h0 := by rw [← hh, Bd.state]; rfl
  have N0 := Fr.nil n0
  have p0 : own_go p e below (s₁.setTop (entryFrame m #[(.int p1), (.int p2)] 2)) (s₁.setTop (mkF m 0 #[.val (.int p1), .val (.int p2)] [])) := fun ttx ktx => castTop (ef_11 m p1 p2) ktx
  have go1 : own_go p e below (s₁.setTop (entryFrame m #[(.int p1), (.int p2)] 2)) (s₁.setTop (mkF m 2 #[.val (.int p1), .val (.int p2)] [(.int p2), (.int p1)])) := by
    intro ttx ktx
    refine p0 ttx ?_
    show Steps p.tables e below (s₁.setTop (mkF m 0 #[.val (.int p1), .val (.int p2)] [])) _
    refine XS.iloadN X0.here hx rfl (hb hby d11_0) rfl ?_
    show Steps p.tables e below (s₁.setTop (mkF m 1 #[.val (.int p1), .val (.int p2)] [(.int p1)])) _
    refine XS.iloadN X0.here hx rfl (hb hby d11_1) rfl ?_
    exact ktx
  obtain ⟨v5, hv_v5, go6⟩ : ∃ (v5 : Int32), v5 = (if p2 < p1 then p2 else p1) ∧ own_go p e below (s₁.setTop (entryFrame m #[(.int p1), (.int p2)] 2)) (s₁.setTop (mkF m 10 #[.val (.int p1), .val (.int p2)] [(.int v5)])) := by
    by_cases hc2_2 : p2 < p1
    · have go3 : own_go p e below (s₁.setTop (entryFrame m #[(.int p1), (.int p2)] 2)) (s₁.setTop (mkF m 10 #[.val (.int p1), .val (.int p2)] [(.int p2)])) := by
        intro ttx ktx
        refine go1 ttx ?_
        show Steps p.tables e below (s₁.setTop (mkF m 2 #[.val (.int p1), .val (.int p2)] [(.int p2), (.int p1)])) _
        refine XS.icmpYes X0.here hx rfl (pc0 := 2) (pc' := 9) rfl (hb hby d11_2) rfl (tlt hc2_2).2.2.1 (by decide) (by decide) ?_
        show Steps p.tables e below (s₁.setTop (mkF m 9 #[.val (.int p1), .val (.int p2)] [])) _
        refine XS.iloadN X0.here hx rfl (hb hby d11_9) rfl ?_
        exact ktx
      exact ⟨_, (if_pos hc2_2).symm, go3⟩
    · have go4 : own_go p e below (s₁.setTop (entryFrame m #[(.int p1), (.int p2)] 2)) (s₁.setTop (mkF m 10 #[.val (.int p1), .val (.int p2)] [(.int p1)])) := by
        intro ttx ktx
        refine go1 ttx ?_
        show Steps p.tables e below (s₁.setTop (mkF m 2 #[.val (.int p1), .val (.int p2)] [(.int p2), (.int p1)])) _
        refine XS.icmpNo X0.here hx rfl (hb hby d11_2) rfl (flt hc2_2).2.2.1 ?_
        show Steps p.tables e below (s₁.setTop (mkF m 5 #[.val (.int p1), .val (.int p2)] [])) _
        refine XS.iloadN X0.here hx rfl (hb hby d11_5) rfl ?_
        show Steps p.tables e below (s₁.setTop (mkF m 6 #[.val (.int p1), .val (.int p2)] [(.int p1)])) _
        refine XS.goto X0.here hx rfl (pc0 := 6) (pc' := 10) rfl (hb hby d11_6) (by decide) (by decide) ?_
        exact ktx
      exact ⟨_, (if_neg hc2_2).symm, go4⟩
  obtain ⟨fs, hr, hrun, hended, hW, hsame⟩ := X0.leave (v := some (.int v5)) (fun h => by rw [Bd.returns] at h; cases h)
  refine ⟨_, _, go6 _ ?_, hrun, hended, _, _, rfl, ?_, ⟨_, rfl⟩, hW, hsame.mono (by decide) (by decide)⟩
  · exact retI X0 hx Bd.returns (hb hby d11_10) hr
  · show Q11 Z p1 p2 h0 n0 _ s₁.heap _
    rw [e0]
    exact ⟨by rw [hv_v5], N0, rfl⟩
theorem own_nn {x : Int32} (h : 0 ≤ x.toInt) : ¬ x < 0 := by rw [Int32.lt_iff_toInt_lt]; have e0 : (0 : Int32).toInt = 0 := rfl; omega
theorem own_tn (x : Int32) : x.toNatClampNeg = x.toInt.toNat := rfl
theorem own_min (a b : Int32) (ha : 0 ≤ a.toInt) (hb : 0 ≤ b.toInt) : 0 ≤ (if b < a then b else a).toInt ∧ (if b < a then b else a).toInt ≤ a.toInt ∧ (if b < a then b else a).toInt ≤ b.toInt ∧ ((if b < a then b else a).toInt = a.toInt ∨ (if b < a then b else a).toInt = b.toInt) := by
  split
  · rename_i h; rw [Int32.lt_iff_toInt_lt] at h; omega
  · rename_i h; rw [Int32.lt_iff_toInt_lt] at h; omega
theorem own_cpd (vd vs : List Value) (dv : Value) (m i : Nat) (h : i < m) : (vd.take 0 ++ (List.range m).map (fun k => vs.getD (0 + k) dv) ++ vd.drop (0 + m)).getD i dv = vs.getD i dv := by
  simp [List.getD, List.getElem?_append, h]
theorem d6_0 : decode jdk_65_method_123_code 0 = .ok (.iload_n 1, 1) := by decide +kernel
theorem d6_1 : decode jdk_65_method_123_code 1 = .ok (.aload_n 0, 1) := by decide +kernel
theorem d6_2 : decode jdk_65_method_123_code 2 = .ok (.arraylength, 1) := by decide +kernel
theorem d6_3 : decode jdk_65_method_123_code 3 = .ok (.if_icmp .ne 11, 3) := by decide +kernel
theorem d6_6 : decode jdk_65_method_123_code 6 = .ok (.aload_n 0, 1) := by decide +kernel
theorem d6_7 : decode jdk_65_method_123_code 7 = .ok (.invokevirtual 316, 3) := by decide +kernel
theorem d6_10 : decode jdk_65_method_123_code 10 = .ok (.checkcast 317, 3) := by decide +kernel
theorem d6_13 : decode jdk_65_method_123_code 13 = .ok (.areturn, 1) := by decide +kernel
theorem d6_14 : decode jdk_65_method_123_code 14 = .ok (.iload_n 1, 1) := by decide +kernel
theorem d6_15 : decode jdk_65_method_123_code 15 = .ok (.newarray .int, 2) := by decide +kernel
theorem d6_17 : decode jdk_65_method_123_code 17 = .ok (.astore_n 2, 1) := by decide +kernel
theorem d6_18 : decode jdk_65_method_123_code 18 = .ok (.aload_n 0, 1) := by decide +kernel
theorem d6_19 : decode jdk_65_method_123_code 19 = .ok (.iconst 0, 1) := by decide +kernel
theorem d6_20 : decode jdk_65_method_123_code 20 = .ok (.aload_n 2, 1) := by decide +kernel
theorem d6_21 : decode jdk_65_method_123_code 21 = .ok (.iconst 0, 1) := by decide +kernel
theorem d6_22 : decode jdk_65_method_123_code 22 = .ok (.aload_n 0, 1) := by decide +kernel
theorem d6_23 : decode jdk_65_method_123_code 23 = .ok (.arraylength, 1) := by decide +kernel
theorem d6_24 : decode jdk_65_method_123_code 24 = .ok (.iload_n 1, 1) := by decide +kernel
theorem own_pd0 : parseMethodDescriptor "(II)I" = some ⟨[.int, .int], some .int⟩ := by decide +kernel
theorem d6_25 : decode jdk_65_method_123_code 25 = .ok (.invokestatic 304, 3) := by decide +kernel
theorem d6_28 : decode jdk_65_method_123_code 28 = .ok (.invokestatic 150, 3) := by decide +kernel
theorem d6_31 : decode jdk_65_method_123_code 31 = .ok (.aload_n 2, 1) := by decide +kernel
theorem d6_32 : decode jdk_65_method_123_code 32 = .ok (.areturn, 1) := by decide +kernel
theorem own_pn_java_util_Arrays : plainName "java/util/Arrays" = true := by first | (simp [plainName, overriddenIn]; done) | decide +kernel
theorem ef_CPY (m : MethodId) (x0 : Addr) (x1 : Int32) : entryFrame m #[(.ref x0), (.int x1)] 3 = mkF m 0 #[.val (.ref x0), .val (.int x1), .unset] [] := by first | (simp [entryFrame, mkF, argsToLocals, Value.category]; done) | rfl
def QCPY (Z : State) (a1 : Addr) (p2 : Int32) (kc : ClassId) (z : Int32) (vs : List Value) (h0 : Heap) (n0 : Nat) (v : Option Value) (h : Heap) (L : List Loc) : Prop := ∃ (b : Addr) (kb : ClassId) (ws : List Value), v = some (.ref b) ∧ Fr n0 L ∧ Keep h0 h [] ∧ h0.size ≤ b ∧ Exa Z h b "[I" ∧ Arv Z h b kb .int p2 ws (.int (0 : Int32)) ∧ ∀ i, i < p2.toNatClampNeg → i < z.toNatClampNeg → ws.getD i (.int (0 : Int32)) = vs.getD i (.int (0 : Int32))
set_option maxRecDepth 65536 in
set_option maxHeartbeats 40000000 in
theorem rmCPY (l : Launch) (Z : State) (a0 : Array Value) (hw : ∀ d ∈ tables_1, d.before a0 Z = true) (ws : List Jvm.Cond) (a1 : Addr) (p2 : Int32) (kc : ClassId) (z : Int32) (vs : List Value) (h0 : Heap) (n0 : Nat) (Z0 : n0 ≤ h0.size) (V_a : Arv Z h0 a1 kc .int z vs (.int (0 : Int32))) (E_a : Exa Z h0 a1 "[I") (hp : 0 ≤ p2.toInt ∧ p2.toInt ≤ 16) (hz : 0 ≤ z.toInt ∧ z.toInt ≤ 16) :
    MetFree l (⟨"java/util/Arrays", "copyOf", "([II)[I"⟩ : MethodName) (head1 (Jvm.Cond.code (⟨"java/util/Arrays", "copyOf", "([II)[I"⟩ : MethodName) jdk_65_method_123_code 3 (some (.array .int)) :: ws) ({ frames := 1, cells := 1, slots := 16, locals := 40 } : Room)) (fun aax UU => aax = #[(.ref a1), (.int p2)] ∧ Z.Warmed39 UU.vm ∧ UU.heap = h0) (fun _ _ _ _ _ => True) (fun _ UU oux UU' => ∃ rvx Lrx, oux = .returned rvx ∧ QCPY Z a1 p2 kc z vs h0 n0 rvx UU'.heap Lrx ∧ FrameEnd UU oux UU' Lrx ({ frames := 1, cells := 1, slots := 16, locals := 40 } : Room).cells ({ frames := 1, cells := 1, slots := 16, locals := 40 } : Room).slots) := by
  refine MetFree.of_bodySF (plainFor_of_name own_pn_java_util_Arrays) hisR ?_
  intro p e s m args below meth c s₁ Bd hml0 hP hK
  obtain ⟨rfl, hZ, hh⟩ := hP
  have hx := Bd.exec
  have hby := Bd.bytes
  have hml : c.maxLocals = 3 := hml0
  have hown : s.vm.findClass "java/util/Arrays" = some m.cls := findClass_of_methodNamed Bd.named
  have hnm := (name_of_methodNamed Bd.named Bd.method).1
  have X0 : Stand p l e ({ frames := 1, cells := 1, slots := 16, locals := 40 } : Room) s m #[(.ref a1), (.int p2)] below meth c s₁ [] 0 0 := Stand.of_body Bd
  have e0 : s₁.heap = h0 := by rw [← hh, Bd.state]; rfl
  have N0 := Fr.nil n0
  have p0 : own_go p e below (s₁.setTop (entryFrame m #[(.ref a1), (.int p2)] 3)) (s₁.setTop (mkF m 0 #[.val (.ref a1), .val (.int p2), .unset] [])) := fun ttx ktx => castTop (ef_CPY m a1 p2) ktx
  obtain ⟨cl1, Ar1, -, S1, M1, -, -⟩ := id V_a
  have go2 : own_go p e below (s₁.setTop (entryFrame m #[(.ref a1), (.int p2)] 3)) (s₁.setTop (mkF m 3 #[.val (.ref a1), .val (.int p2), .unset] [(.int z), (.int p2)])) := by
    intro ttx ktx
    refine p0 ttx ?_
    show Steps p.tables e below (s₁.setTop (mkF m 0 #[.val (.ref a1), .val (.int p2), .unset] [])) _
    refine XS.iloadN X0.here hx rfl (hb hby d6_0) rfl ?_
    show Steps p.tables e below (s₁.setTop (mkF m 1 #[.val (.ref a1), .val (.int p2), .unset] [(.int p2)])) _
    refine XS.aloadN X0.here hx rfl (hb hby d6_1) rfl rfl ?_
    show Steps p.tables e below (s₁.setTop (mkF m 2 #[.val (.ref a1), .val (.int p2), .unset] [(.ref a1), (.int p2)])) _
    refine X0.arraylength hx (own_hp e0 Ar1.1) (State.isArrayOf_alike hZ.alike Ar1.2.1) (g := (mkF m 2 #[.val (.ref a1), .val (.int p2), .unset] [(.ref a1), (.int p2)])) rfl rfl (hb hby d6_2) _ ?_
    rw [len_of S1 M1]
    exact ktx
  by_cases hc3_3 : p2 = z
  · have hcl : z.toNatClampNeg ≤ 16 := by rw [own_tn]; omega
    obtain ⟨T4, h4, X4, e4, E4, V4, B4, st4⟩ := cloneH X0 hx hZ hown (hw _ (List.mem_of_getElem? (i := 37) rfl)) (hw _ (List.mem_of_getElem? (i := 38) rfl)) (hw _ (List.mem_of_getElem? (i := 42) rfl)) (hw _ (List.mem_of_getElem? (i := 40) rfl)) (hw _ (List.mem_of_getElem? (i := 41) rfl)) (hw _ (List.mem_of_getElem? (i := 43) rfl)) e0 (Arv.arh V_a) E_a (g := (mkF m 7 #[.val (.ref a1), .val (.int p2), .unset] [(.ref a1)])) rfl (by rw [hml]; rfl) rfl (hb hby d6_7) (by decide) (W := 0) (cap := 16) (by show 2 * 0 + _ ≤ _; exact Nat.le_of_eq rfl) (by decide) hcl (by decide) (by decide)
    obtain ⟨b4, g4⟩ : ∃ z, z = h0.size := ⟨_, rfl⟩
    rw [← g4] at V4 B4 st4
    have ne5 : a1 ≠ b4 := Nat.ne_of_lt (Nat.lt_of_lt_of_le V_a.lt (Nat.le_of_eq g4.symm))
    have g_b4 : n0 ≤ b4 := Nat.le_trans Z0 (Nat.le_of_eq g4.symm)
    have sz_b4 : h0.size ≤ b4 := Nat.le_trans (Keep.refl h0 []).1 (Nat.le_of_eq g4.symm)
    have Z4 : n0 ≤ h4.size := Nat.le_trans Z0 E4.1
    have K4 : Keep h0 h4 [] := (Keep.refl h0 []).ext E4
    obtain ⟨T6, X6, e6, st6⟩ := castY X4 hx hZ hown (hw _ (List.mem_of_getElem? (i := 44) rfl)) e4 (Ins.self B4) (g := (mkF m 10 #[.val (.ref a1), .val (.int p2), .unset] [(.ref b4)])) rfl rfl (hb hby d6_10)
    have go7 : own_go p e below (s₁.setTop (entryFrame m #[(.ref a1), (.int p2)] 3)) (T6.setTop (mkF m 13 #[.val (.ref a1), .val (.int p2), .unset] [(.ref b4)])) := by
      intro ttx ktx
      refine go2 ttx ?_
      show Steps p.tables e below (s₁.setTop (mkF m 3 #[.val (.ref a1), .val (.int p2), .unset] [(.int z), (.int p2)])) _
      refine XS.icmpNo X0.here hx rfl (hb hby d6_3) rfl (teq hc3_3).2 ?_
      show Steps p.tables e below (s₁.setTop (mkF m 6 #[.val (.ref a1), .val (.int p2), .unset] [])) _
      refine XS.aloadN X0.here hx rfl (hb hby d6_6) rfl rfl ?_
      show Steps p.tables e below (s₁.setTop (mkF m 7 #[.val (.ref a1), .val (.int p2), .unset] [(.ref a1)])) _
      refine st4 _ ?_
      show Steps p.tables e below (T4.setTop (mkF m 10 #[.val (.ref a1), .val (.int p2), .unset] [(.ref b4)])) _
      refine st6 _ ?_
      exact ktx
    obtain ⟨fs, hr, hrun, hended, hW, hsame⟩ := X6.leave (v := some (.ref b4)) (fun h => by rw [Bd.returns] at h; cases h)
    refine ⟨_, _, go7 _ ?_, hrun, hended, _, _, rfl, ?_, ⟨_, rfl⟩, hW, hsame.mono (by decide) (by decide)⟩
    · exact retOut X6 hx Bd.returns rfl (Or.inr (Or.inr (Or.inr (Or.inr ⟨rfl, rfl, rfl⟩)))) (hb hby d6_13) hr
    · show QCPY Z a1 p2 kc z vs h0 n0 _ T6.heap _
      rw [e6]
      subst hc3_3
      exact ⟨b4, _, _, rfl, N0, K4, sz_b4, B4, V4, fun i h1 h2 => rfl⟩
  · have hcp : p2.toNatClampNeg ≤ 16 := by rw [own_tn]; omega
    obtain ⟨T8, h8, k8, X8, e8, E8, A8, B8, st8⟩ := newPE X0 hx hZ (hw _ (List.mem_of_getElem? (i := 9) rfl)) e0 (g := (mkF m 15 #[.val (.ref a1), .val (.int p2), .unset] [(.int p2)])) rfl (hb hby d6_15) rfl (own_nn hp.1) (cap := 16) hcp (by decide) (by decide) (by decide) (ad := "[I") (by decide)
    obtain ⟨b8, g8⟩ : ∃ z, z = h0.size := ⟨_, rfl⟩
    rw [← g8] at A8 B8 st8
    have ne9 : a1 ≠ b8 := Nat.ne_of_lt (Nat.lt_of_lt_of_le V_a.lt (Nat.le_of_eq g8.symm))
    have g_b8 : n0 ≤ b8 := Nat.le_trans Z0 (Nat.le_of_eq g8.symm)
    have sz_b8 : h0.size ≤ b8 := Nat.le_trans (Keep.refl h0 []).1 (Nat.le_of_eq g8.symm)
    have Z8 : n0 ≤ h8.size := Nat.le_trans Z0 E8.1
    have K8 : Keep h0 h8 [] := (Keep.refl h0 []).ext E8
    have V8 : Arv Z h8 b8 k8 .int p2 [] (.int (0 : Int32)) := Arv.new A8 (own_nn hp.1)
    have f10 := (V_a.ext E8)
    obtain ⟨cl11, Ar11, -, S11, M11, -, -⟩ := id f10
    obtain ⟨_, _, ⟨T12, L12, k12, n12⟩, -, X12, ⟨Lc12, hQ12, l12, y12, z12⟩, st12⟩ := Jvm.LawKit.callS X8 hx (y := (⟨"java/lang/Math", "min", "(II)I"⟩ : MethodName)) hown (mvT hZ (hw _ (List.mem_of_getElem? (i := 59) rfl))) (mvT hZ (hw _ (List.mem_of_getElem? (i := 60) rfl))) (mvT hZ (hw _ (List.mem_of_getElem? (i := 61) rfl))) (mvT hZ (hw _ (List.mem_of_getElem? (i := 62) rfl))) (by decide) (backOf (W := 4) (rm11 l Z a0 hw [] z p2  h8 n0 Z8 ) hZ (hw _ (List.mem_of_getElem? (i := 62) rfl)) (hw _ (List.mem_of_getElem? (i := 61) rfl)) (by decide) (by decide)) (g := (mkF m 25 #[.val (.ref a1), .val (.int p2), .val (.ref b8)] [(.int p2), (.int z), (.int (0 : Int32)), (.ref b8), (.int (0 : Int32)), (.ref a1)])) rfl (by rw [hml]; rfl) (argsL := [(.int z), (.int p2)]) (rest := [(.int (0 : Int32)), (.ref b8), (.int (0 : Int32)), (.ref a1)]) (lenOf own_pd0 rfl) rfl (by show 2 * 0 + _ ≤ _; exact Nat.le_of_eq rfl) (hb hby d6_25) (fun _ _ => ⟨rfl, e8, (by decide : 1 + 0 ≤ _), (by decide : 16 + 0 ≤ _)⟩)
    dsimp only [Pt.U, Pt.locs, Pt.cells, Pt.slots] at X12 l12 y12 z12 st12 hQ12
    subst l12 y12 z12
    obtain ⟨rfl, Nq12, e12⟩ := hQ12
    have N12 := Fr.app N0 Nq12
    have hmn := own_min z p2 hz.1 hp.1
    have hb1 := hmn.1
    have hb2 := hmn.2.1
    have hb3 := hmn.2.2.1
    have e00 : (0 : Int32).toNatClampNeg = 0 := rfl
    obtain ⟨T13, h13, L13, X13, e13, N13, Kc13, V13, st13⟩ := cpA X12 hx hZ hown (hw _ (List.mem_of_getElem? (i := 63) rfl)) (hw _ (List.mem_of_getElem? (i := 66) rfl)) (hw _ (List.mem_of_getElem? (i := 64) rfl)) (hw _ (List.mem_of_getElem? (i := 65) rfl)) e12 f10 (V8.pad (pad_rep [] (.int (0 : Int32)) 16)) (Or.inl ⟨rfl, rfl⟩) (by decide) (by decide) (own_nn hb1) (by rw [e00, own_tn, own_tn]; omega) (by rw [e00, own_tn, own_tn]; omega) rfl (by rw [e00, own_tn, List.nil_append, List.length_replicate]; omega) N12 g_b8 (g := (mkF m 28 #[.val (.ref a1), .val (.int p2), .val (.ref b8)] [(.int (if p2 < z then p2 else z)), (.int (0 : Int32)), (.ref b8), (.int (0 : Int32)), (.ref a1)])) rfl (by rw [hml]; rfl) rfl (hb hby d6_28) (by decide) (W := 0) (by show 2 * 0 + _ ≤ _; exact Nat.le_of_eq rfl) (by decide)
    have Z13 : n0 ≤ h13.size := Nat.le_trans Z8 Kc13.1
    have K13 : Keep h0 h13 [] := K8.trans Kc13 (allS (Or.inr sz_b8) all0)
    have go14 : own_go p e below (s₁.setTop (entryFrame m #[(.ref a1), (.int p2)] 3)) (T13.setTop (mkF m 32 #[.val (.ref a1), .val (.int p2), .val (.ref b8)] [(.ref b8)])) := by
      intro ttx ktx
      refine go2 ttx ?_
      show Steps p.tables e below (s₁.setTop (mkF m 3 #[.val (.ref a1), .val (.int p2), .unset] [(.int z), (.int p2)])) _
      refine XS.icmpYes X0.here hx rfl (pc0 := 3) (pc' := 14) rfl (hb hby d6_3) rfl (feq hc3_3).2 (by decide) (by decide) ?_
      show Steps p.tables e below (s₁.setTop (mkF m 14 #[.val (.ref a1), .val (.int p2), .unset] [])) _
      refine XS.iloadN X0.here hx rfl (hb hby d6_14) rfl ?_
      show Steps p.tables e below (s₁.setTop (mkF m 15 #[.val (.ref a1), .val (.int p2), .unset] [(.int p2)])) _
      refine st8 _ ?_
      show Steps p.tables e below (T8.setTop (mkF m 17 #[.val (.ref a1), .val (.int p2), .unset] [(.ref b8)])) _
      refine XS.astoreN X8.here hx rfl (hb hby d6_17) rfl rfl (l' := #[.val (.ref a1), .val (.int p2), .val (.ref b8)]) rfl ?_
      show Steps p.tables e below (T8.setTop (mkF m 18 #[.val (.ref a1), .val (.int p2), .val (.ref b8)] [])) _
      refine XS.aloadN X8.here hx rfl (hb hby d6_18) rfl rfl ?_
      show Steps p.tables e below (T8.setTop (mkF m 19 #[.val (.ref a1), .val (.int p2), .val (.ref b8)] [(.ref a1)])) _
      refine XS.iconst X8.here hx rfl (hb hby d6_19) ?_
      show Steps p.tables e below (T8.setTop (mkF m 20 #[.val (.ref a1), .val (.int p2), .val (.ref b8)] [(.int (0 : Int32)), (.ref a1)])) _
      refine XS.aloadN X8.here hx rfl (hb hby d6_20) rfl rfl ?_
      show Steps p.tables e below (T8.setTop (mkF m 21 #[.val (.ref a1), .val (.int p2), .val (.ref b8)] [(.ref b8), (.int (0 : Int32)), (.ref a1)])) _
      refine XS.iconst X8.here hx rfl (hb hby d6_21) ?_
      show Steps p.tables e below (T8.setTop (mkF m 22 #[.val (.ref a1), .val (.int p2), .val (.ref b8)] [(.int (0 : Int32)), (.ref b8), (.int (0 : Int32)), (.ref a1)])) _
      refine XS.aloadN X8.here hx rfl (hb hby d6_22) rfl rfl ?_
      show Steps p.tables e below (T8.setTop (mkF m 23 #[.val (.ref a1), .val (.int p2), .val (.ref b8)] [(.ref a1), (.int (0 : Int32)), (.ref b8), (.int (0 : Int32)), (.ref a1)])) _
      refine X8.arraylength hx (own_hp e8 Ar11.1) (State.isArrayOf_alike hZ.alike Ar11.2.1) (g := (mkF m 23 #[.val (.ref a1), .val (.int p2), .val (.ref b8)] [(.ref a1), (.int (0 : Int32)), (.ref b8), (.int (0 : Int32)), (.ref a1)])) rfl rfl (hb hby d6_23) _ ?_
      rw [len_of S11 M11]
      show Steps p.tables e below (T8.setTop (mkF m 24 #[.val (.ref a1), .val (.int p2), .val (.ref b8)] [(.int z), (.int (0 : Int32)), (.ref b8), (.int (0 : Int32)), (.ref a1)])) _
      refine XS.iloadN X8.here hx rfl (hb hby d6_24) rfl ?_
      show Steps p.tables e below (T8.setTop (mkF m 25 #[.val (.ref a1), .val (.int p2), .val (.ref b8)] [(.int p2), (.int z), (.int (0 : Int32)), (.ref b8), (.int (0 : Int32)), (.ref a1)])) _
      refine st12 _ ?_
      show Steps p.tables e below (T12.setTop (mkF m 28 #[.val (.ref a1), .val (.int p2), .val (.ref b8)] [(.int (if p2 < z then p2 else z)), (.int (0 : Int32)), (.ref b8), (.int (0 : Int32)), (.ref a1)])) _
      refine st13 _ ?_
      show Steps p.tables e below (T13.setTop (mkF m 31 #[.val (.ref a1), .val (.int p2), .val (.ref b8)] [])) _
      refine XS.aloadN X13.here hx rfl (hb hby d6_31) rfl rfl ?_
      exact ktx
    obtain ⟨fs, hr, hrun, hended, hW, hsame⟩ := X13.leave (v := some (.ref b8)) (fun h => by rw [Bd.returns] at h; cases h)
    refine ⟨_, _, go14 _ ?_, hrun, hended, _, _, rfl, ?_, ⟨_, rfl⟩, hW, hsame.mono (by decide) (by decide)⟩
    · exact retOut X13 hx Bd.returns rfl (Or.inr (Or.inr (Or.inr (Or.inr ⟨rfl, rfl, rfl⟩)))) (hb hby d6_32) hr
    · show QCPY Z a1 p2 kc z vs h0 n0 _ T13.heap _
      rw [e13]
      have f15 := (B8.keep Kc13)
      exact ⟨b8, _, _, rfl, N13, K13, sz_b8, f15, V13, fun i h1 h2 => own_cpd _ _ _ _ _ (by rw [own_tn] at *; have := hmn.2.2.2; omega)⟩
theorem own_pd1 : parseMethodDescriptor "([I)V" = some ⟨[(.array .int)], none⟩ := by decide +kernel
set_option maxRecDepth 65536 in
set_option maxHeartbeats 4000000 in
theorem own_sort {p : Program} {l : Launch} {e : Env} {R : Room} {s : State} {m : MethodId} {args : Array Value} {below : List Frame} {meth : Method} {c : Code} {T : State} {locs : List Loc} {cells slots : Nat} {Z : State} {a0 : Array Value} {h : Heap}
    (X : Stand p l e R s m args below meth c T locs cells slots) (hx : p.tables.exec = Jvm.exec) (hZ : Z.Warmed39 s.vm) (hw : ∀ d ∈ tables_1, d.before a0 Z = true) {own : String} {index : Nat} (hown : s.vm.findClass own = some m.cls)
    (w1 : (Jvm.Cond.methodLink own index (⟨"java/util/Arrays", "sort", "([I)V"⟩ : MethodName)).before a0 Z = true) (eT : T.heap = h) {b : Addr} {kb : ClassId} {z : Int32} {us : List Int32} (V : Arv Z h b kb .int z (us.map Value.int) (.int (0 : Int32))) (hz : z.toInt = us.length) (hu : us.length ≤ 40)
    {n0 : Nat} (N : Fr n0 locs) (gb : n0 ≤ b) {g : JFrame} (hg : g.method = m) (hsize : g.locals.size = c.maxLocals) {rest : List Value} (hs : g.stack = .ref b :: rest) (hd : decode c.code g.pc = .ok (.invokestatic index, 3)) {W : Nat} (hW : 2 * g.monitorRoom + (rest.map fun v => v.category).sum ≤ W) (hf : 5 ≤ R.frames) (hlo : W + 162 ≤ R.locals) (hc : cells ≤ R.cells) (hl : slots ≤ R.slots) :
    ∃ (T' : State) (h' : Heap) (L : List Loc) (us' : List Int32), Stand p l e R s m args below meth c T' L cells slots ∧ T'.heap = h' ∧ Fr n0 L ∧ Keep h h' [b] ∧ Arv Z h' b kb .int z (us'.map Value.int) (.int (0 : Int32)) ∧ us'.Perm us ∧ us'.Pairwise (· ≤ ·) ∧
      ∀ target, Steps p.tables e below (T'.setTop { g with pc := g.pc + 3, stack := rest }) target → Steps p.tables e below (T.setTop g) target := by
  obtain ⟨cl, Ar, q, S, M, H, G⟩ := V
  have hsz : cl.slots.size = us.length := by rw [S]; show z.toInt.toNat = _; omega
  have hat : ∀ i, i < cl.slots.size → cl.slots[i]? = some (.int (us.getD i 0)) := fun i hi => by rw [H i hi]; exact congrArg some (own_getD Value.int us 0 i)
  have hInts : Jvm.Free.Str.Ints cl := fun i hi => by
    have e := hat i hi
    rw [e]
    simp [Jvm.Lib.StringLatin1.equals.intAt, e]
  have hlist : cl.slots.toList = us.map Value.int := by
    refine List.ext_getElem? fun i => ?_
    rw [Array.getElem?_toList]
    by_cases hi : i < cl.slots.size
    · rw [hat i hi]
      have hi' : i < us.length := by omega
      simp [List.getD, hi']
    · have hi' : ¬ i < us.length := by omega
      rw [Array.getElem?_eq_none (by omega)]
      simp [Nat.not_lt.mp hi']
  have htab : Jvm.Free.Str.AS1.tab.before args s = true := by
    simp only [Jvm.Free.Str.AS1.tab, Jvm.Free.Str.AS1.words, Jvm.Free.Str.DS4.tab, Jvm.Free.Str.DS4.words, Jvm.Free.Str.DS5.tab, Jvm.Free.Str.DS5.words, Jvm.Free.Str.INS.tab, List.foldr, Cond.before_and, Bool.and_eq_true]
    refine ⟨mvT hZ (hw _ (List.mem_of_getElem? (i := 48) rfl)), mvT hZ (hw _ (List.mem_of_getElem? (i := 49) rfl)), mvT hZ (hw _ (List.mem_of_getElem? (i := 50) rfl)), ⟨mvT hZ (hw _ (List.mem_of_getElem? (i := 52) rfl)), mvT hZ (hw _ (List.mem_of_getElem? (i := 53) rfl)), mvT hZ (hw _ (List.mem_of_getElem? (i := 54) rfl)), ⟨mvT hZ (hw _ (List.mem_of_getElem? (i := 55) rfl)), mvT hZ (hw _ (List.mem_of_getElem? (i := 56) rfl)), mvT hZ (hw _ (List.mem_of_getElem? (i := 57) rfl)), ⟨mvT hZ (hw _ (List.mem_of_getElem? (i := 58) rfl)), mvT hZ (hw _ (List.mem_of_getElem? (i := 51) rfl))⟩, mvT hZ (hw _ (List.mem_of_getElem? (i := 51) rfl)), rfl⟩, mvT hZ (hw _ (List.mem_of_getElem? (i := 51) rfl)), rfl⟩, mvT hZ (hw _ (List.mem_of_getElem? (i := 35) rfl)), rfl⟩
  obtain ⟨v, vm₁, ⟨T1, L1, k1, n1⟩, hWm, X1, ⟨rfl, ⟨A', hA', hS⟩, hoth, hsz', L, hL, hlocs, hcells, hslots⟩, st⟩ := Jvm.LawKit.callS X hx (y := (⟨"java/util/Arrays", "sort", "([I)V"⟩ : MethodName)) hown (mvT hZ w1) (mvT hZ (hw _ (List.mem_of_getElem? (i := 47) rfl))) (mvT hZ (hw _ (List.mem_of_getElem? (i := 35) rfl))) (mvT hZ (hw _ (List.mem_of_getElem? (i := 48) rfl))) (by decide) (Jvm.Free.Str.AS1.pays (W := W) b cl htab hf (by omega)) hg hsize (argsL := [.ref b]) (rest := rest) (lenOf own_pd1 rfl) hs hW hd
    (fun vm₁ hW₁ => ⟨hc, hl, rfl, ⟨by show T.heap[b]? = _; rw [eT]; exact Ar.1, State.isArrayOf_alike (hZ.alike.trans hW₁.alike) Ar.2.1, Ar.2.2, by omega, hInts, Nat.zero_le _, Nat.le_refl _⟩, by omega⟩)
  dsimp only [Pt.U, Pt.locs, Pt.cells, Pt.slots] at X1 hlocs hcells hslots st hA' hoth hsz'
  subst hlocs hcells hslots
  obtain ⟨s1, s2, s3, s4, s5, s6, s7⟩ := hS
  have hh : ∀ y : Addr, y ≠ b → T1.heap[y]? = h[y]? := fun y hy => by rw [hoth y hy]; show T.heap[y]? = _; rw [eT]
  have hs1 : T1.heap.size = h.size := by rw [hsz']; show T.heap.size = _; rw [eT]
  let us' : List Int32 := (List.range A'.slots.size).map (fun i => Jvm.Lib.StringLatin1.equals.intAt A' i)
  have hlist' : A'.slots.toList = us'.map Value.int := by
    refine List.ext_getElem? fun i => ?_
    rw [Array.getElem?_toList]
    by_cases hi : i < A'.slots.size
    · rw [s7 i hi]; simp [us', hi]
    · rw [Array.getElem?_eq_none (by omega)]; simp [us', Nat.not_lt.mp hi]
  have hlen : us'.length = us.length := by simp [us', s6, hsz]
  refine ⟨T1, _, _, us', X1, rfl, Fr.app N (fun y hy => by rw [hL y hy]; exact gb), ⟨by rw [hs1]; exact Nat.le_refl _, fun x cx hx' hn => ?_, fun x cx hx' => ?_⟩, ⟨A', ⟨hA', ?_, by rw [s5]; exact Ar.2.2⟩, by rw [s4]; exact q, by rw [s6]; exact S, M, fun i hi => ?_, fun i hi => ?_⟩, ?_, ?_, st⟩
  · rw [hh x (fun e => hn (by rw [e]; exact List.mem_singleton.mpr rfl))]; exact hx'
  · by_cases e : x = b
    · subst e
      cases hx'.symm.trans Ar.1
      exact ⟨A', hA', s4, s5, s6⟩
    · exact ⟨cx, by rw [hh x e]; exact hx', rfl, rfl, rfl⟩
  · obtain ⟨o1, k, hk, comp, hkind⟩ := Ar.2.1
    exact ⟨by rw [s5]; exact o1, k, by rw [s4]; exact hk, comp, hkind⟩
  · rw [s7 i hi]
    have e := own_getD Value.int us' 0 i
    rw [e]
    simp [us', List.getD, hi]
  · have e := own_getD Value.int us' 0 i
    rw [e]; rfl
  · have hp := (hlist' ▸ hlist ▸ s2 : (us'.map Value.int).Perm (us.map Value.int))
    have hq := hp.map (fun v => match v with | .int x => x | _ => (0 : Int32))
    simpa [List.map_map, Function.comp_def] using hq
  · rw [List.pairwise_iff_getElem]
    intro i j hi hj hij
    have hj' : j < cl.slots.size := by rw [hsz, ← hlen]; exact hj
    have := s1 i j (Nat.zero_le _) (Nat.le_of_lt hij) hj'
    simpa [us'] using this
def own_fb (Z : State) (h : Heap) (r ts tf : Addr) (n q : Int32) : Prop := Exa Z h r "com/example/linkwright/linkwright/link/FoundTargets" ∧ Fld Z h r "com/example/linkwright/linkwright/link/FoundTargets" "seen" "[I" (.ref ts) ∧ Fld Z h r "com/example/linkwright/linkwright/link/FoundTargets" "found" "[I" (.ref tf) ∧ Fld Z h r "com/example/linkwright/linkwright/link/FoundTargets" "query" "I" (.int q) ∧ Exa Z h tf "[I" ∧ ∃ (k1 k2 : ClassId) (sv fv : List Value) (k : Int32), Arv Z h ts k1 .int n sv (.int (0 : Int32)) ∧ Arv Z h tf k2 .int n fv (.int (0 : Int32)) ∧ Fld Z h r "com/example/linkwright/linkwright/link/FoundTargets" "count" "I" (.int k) ∧ ∀ i : Nat, (i : Int) < n.toInt → ∃ x : Int32, sv.getD i (.int (0 : Int32)) = .int x ∧ x.toInt ≤ q.toInt
def own_ft (Z : State) (h : Heap) (r ts tf : Addr) (n q : Int32) (xs : List Int32) : Prop := Exa Z h r "com/example/linkwright/linkwright/link/FoundTargets" ∧ Fld Z h r "com/example/linkwright/linkwright/link/FoundTargets" "seen" "[I" (.ref ts) ∧ Fld Z h r "com/example/linkwright/linkwright/link/FoundTargets" "found" "[I" (.ref tf) ∧ Fld Z h r "com/example/linkwright/linkwright/link/FoundTargets" "query" "I" (.int q) ∧ Exa Z h tf "[I" ∧ ∃ (k1 k2 : ClassId) (sv fv : List Value), Arv Z h ts k1 .int n sv (.int (0 : Int32)) ∧ Arv Z h tf k2 .int n fv (.int (0 : Int32)) ∧ Fld Z h r "com/example/linkwright/linkwright/link/FoundTargets" "count" "I" (.int (Int32.ofNat xs.length)) ∧ (∀ i : Nat, (i : Int) < n.toInt → ∃ x : Int32, sv.getD i (.int (0 : Int32)) = .int x ∧ x.toInt ≤ q.toInt ∧ (x = q ↔ Int32.ofNat i ∈ xs)) ∧ (∀ i, i < xs.length → fv.getD i (.int (0 : Int32)) = .int (xs.getD i 0)) ∧ (xs.length : Int) ≤ n.toInt
theorem own_ft.fb {Z : State} {h : Heap} {r ts tf : Addr} {n q : Int32} {xs : List Int32} (F : own_ft Z h r ts tf n q xs) : own_fb Z h r ts tf n q := by
  obtain ⟨a1, a2, a3, a4, a5, k1, k2, sv, fv, b1, b2, b3, b4, -⟩ := F
  exact ⟨a1, a2, a3, a4, a5, k1, k2, sv, fv, _, b1, b2, b3, fun i hi => by obtain ⟨x, c1, c2, -⟩ := b4 i hi; exact ⟨x, c1, c2⟩⟩
def own_ins (xs : List Int32) (e : Int32) : List Int32 := if e ∈ xs then xs else xs ++ [e]
theorem own_of (n : Nat) (h : n ≤ 100) : (Int32.ofNat n).toInt = n := Int32.toInt_ofNat_of_lt (by omega)
theorem own_up (n : Nat) : Int32.ofNat n + 1 = Int32.ofNat (n + 1) := by
  rw [Int32.ofNat_add]; rfl
theorem own_back {x : Int32} (h : 0 ≤ x.toInt) (h2 : x.toInt ≤ 100) : Int32.ofNat x.toNatClampNeg = x := by
  refine Int32.toInt_inj.mp ?_
  rw [own_tn, own_of _ (by omega)]; omega
theorem own_snoc (ws : List Value) (xs : List Int32) (p : Int32) (i k : Nat) (hk : k = xs.length) (hl : k < ws.length) (H : ∀ i, i < xs.length → ws.getD i (.int (0 : Int32)) = .int (xs.getD i 0)) (hi : i < (xs ++ [p]).length) : (ws.set k (.int p)).getD i (.int (0 : Int32)) = .int ((xs ++ [p]).getD i 0) := by
  subst hk
  by_cases e : i = xs.length
  · subst e; simp [List.getD, hl]
  · have hi' : i < xs.length := by simp at hi; omega
    have := H i hi'
    simp only [List.getD] at *
    rw [List.getElem?_set_ne (Ne.symm e), this, List.getElem?_append_left hi']
theorem own_pad (ws : List Value) (xs : List Int32) (H : ∀ i, i < xs.length → ws.getD i (.int (0 : Int32)) = .int (xs.getD i 0)) : ∀ i, i < xs.length → (ws ++ List.replicate 20 (Value.int (0 : Int32))).getD i (.int (0 : Int32)) = .int (xs.getD i 0) := fun i hi => by rw [pad_rep]; exact H i hi
theorem own_see (sv : List Value) (xs : List Int32) (n q p : Int32) (hp : 0 ≤ p.toInt) (hpn : p.toInt < n.toInt) (hn : n.toInt ≤ 16) (H : ∀ i : Nat, (i : Int) < n.toInt → ∃ x : Int32, sv.getD i (.int (0 : Int32)) = .int x ∧ x.toInt ≤ q.toInt ∧ (x = q ↔ Int32.ofNat i ∈ xs)) : ∀ i : Nat, (i : Int) < n.toInt → ∃ x : Int32, ((sv ++ List.replicate 20 (Value.int (0 : Int32))).set p.toNatClampNeg (.int q)).getD i (.int (0 : Int32)) = .int x ∧ x.toInt ≤ q.toInt ∧ (x = q ↔ Int32.ofNat i ∈ xs ++ [p]) := fun i hi => by
  have ep := own_back hp (by omega)
  by_cases e : p.toNatClampNeg = i
  · subst e
    refine ⟨q, ?_, Int.le_refl _, ?_⟩
    · have hl : p.toNatClampNeg < (sv ++ List.replicate 20 (Value.int (0 : Int32))).length := by rw [own_tn, List.length_append, List.length_replicate]; omega
      simp only [List.getD]
      rw [List.getElem?_set_self hl]; rfl
    · rw [ep]; simp
  · obtain ⟨x, h1, h2, h3⟩ := H i hi
    refine ⟨x, ?_, h2, ?_⟩
    · rw [← h1, ← pad_rep sv (.int (0 : Int32)) 20 i]
      simp only [List.getD]
      rw [List.getElem?_set_ne e]
    · rw [h3]
      have ne : Int32.ofNat i ≠ p := fun q => e (by rw [← q, own_tn, own_of i (by omega)]; omega)
      simp [ne]
theorem d1_0 : decode prog_15_method_1_code 0 = .ok (.aload_n 0, 1) := by decide +kernel
theorem d1_1 : decode prog_15_method_1_code 1 = .ok (.invokespecial 1, 3) := by decide +kernel
theorem d1_4 : decode prog_15_method_1_code 4 = .ok (.aload_n 0, 1) := by decide +kernel
theorem d1_5 : decode prog_15_method_1_code 5 = .ok (.iload_n 1, 1) := by decide +kernel
theorem d1_6 : decode prog_15_method_1_code 6 = .ok (.newarray .int, 2) := by decide +kernel
theorem d1_8 : decode prog_15_method_1_code 8 = .ok (.putfield 7, 3) := by decide +kernel
theorem d1_11 : decode prog_15_method_1_code 11 = .ok (.aload_n 0, 1) := by decide +kernel
theorem d1_12 : decode prog_15_method_1_code 12 = .ok (.iload_n 1, 1) := by decide +kernel
theorem d1_13 : decode prog_15_method_1_code 13 = .ok (.newarray .int, 2) := by decide +kernel
theorem d1_15 : decode prog_15_method_1_code 15 = .ok (.putfield 13, 3) := by decide +kernel
theorem d1_18 : decode prog_15_method_1_code 18 = .ok (.return_, 1) := by decide +kernel
theorem own_pn_com_example_linkwright_linkwright_link_FoundTargets : plainName "com/example/linkwright/linkwright/link/FoundTargets" = true := by first | (simp [plainName, overriddenIn]; done) | decide +kernel
theorem ef_1 (m : MethodId) (x0 : Addr) (x1 : Int32) : entryFrame m #[(.ref x0), (.int x1)] 2 = mkF m 0 #[.val (.ref x0), .val (.int x1)] [] := by first | (simp [entryFrame, mkF, argsToLocals, Value.category]; done) | rfl
def Q1 (Z : State) (a1 : Addr) (p2 : Int32) (h0 : Heap) (n0 : Nat) (v : Option Value) (h : Heap) (L : List Loc) : Prop := v = none ∧ Fr n0 L ∧ Keep h0 h [a1] ∧ ∃ ts tf : Addr, n0 ≤ ts ∧ n0 ≤ tf ∧ h0.size ≤ ts ∧ h0.size ≤ tf ∧ ts ≠ tf ∧ own_fb Z h a1 ts tf p2 (0 : Int32)
set_option maxRecDepth 65536 in
set_option maxHeartbeats 40000000 in
theorem rm1 (l : Launch) (Z : State) (a0 : Array Value) (hw : ∀ d ∈ tables_1, d.before a0 Z = true) (ws : List Jvm.Cond) (a1 : Addr) (p2 : Int32) (h0 : Heap) (n0 : Nat) (Z0 : n0 ≤ h0.size) (E_a1 : Exa Z h0 a1 "com/example/linkwright/linkwright/link/FoundTargets") (g_a1 : n0 ≤ a1) (F_seen : Fld Z h0 a1 "com/example/linkwright/linkwright/link/FoundTargets" "seen" "[I" .null) (F_found : Fld Z h0 a1 "com/example/linkwright/linkwright/link/FoundTargets" "found" "[I" .null) (F_query : Fld Z h0 a1 "com/example/linkwright/linkwright/link/FoundTargets" "query" "I" (.int (0 : Int32))) (F_count : Fld Z h0 a1 "com/example/linkwright/linkwright/link/FoundTargets" "count" "I" (.int (0 : Int32))) (hp : ¬ p2 < 0 ∧ p2.toNatClampNeg ≤ 8) :
    MetFree l (⟨"com/example/linkwright/linkwright/link/FoundTargets", "<init>", "(I)V"⟩ : MethodName) (head1 (Jvm.Cond.code (⟨"com/example/linkwright/linkwright/link/FoundTargets", "<init>", "(I)V"⟩ : MethodName) prog_15_method_1_code 2 none :: ws) ({ frames := 1, cells := 2, slots := 16, locals := 12 } : Room)) (fun aax UU => aax = #[(.ref a1), (.int p2)] ∧ Z.Warmed39 UU.vm ∧ UU.heap = h0) (fun _ _ _ _ _ => True) (fun _ UU oux UU' => ∃ rvx Lrx, oux = .returned rvx ∧ Q1 Z a1 p2 h0 n0 rvx UU'.heap Lrx ∧ FrameEnd UU oux UU' Lrx ({ frames := 1, cells := 2, slots := 16, locals := 12 } : Room).cells ({ frames := 1, cells := 2, slots := 16, locals := 12 } : Room).slots) := by
  refine MetFree.of_bodySF (plainFor_of_name own_pn_com_example_linkwright_linkwright_link_FoundTargets) hisR ?_
  intro p e s m args below meth c s₁ Bd hml0 hP hK
  obtain ⟨rfl, hZ, hh⟩ := hP
  have hx := Bd.exec
  have hby := Bd.bytes
  have hml : c.maxLocals = 2 := hml0
  have hown : s.vm.findClass "com/example/linkwright/linkwright/link/FoundTargets" = some m.cls := findClass_of_methodNamed Bd.named
  have hnm := (name_of_methodNamed Bd.named Bd.method).1
  have X0 : Stand p l e ({ frames := 1, cells := 2, slots := 16, locals := 12 } : Room) s m #[(.ref a1), (.int p2)] below meth c s₁ [] 0 0 := Stand.of_body Bd
  have e0 : s₁.heap = h0 := by rw [← hh, Bd.state]; rfl
  have N0 := Fr.nil n0
  have p0 : own_go p e below (s₁.setTop (entryFrame m #[(.ref a1), (.int p2)] 2)) (s₁.setTop (mkF m 0 #[.val (.ref a1), .val (.int p2)] [])) := fun ttx ktx => castTop (ef_1 m a1 p2) ktx
  obtain ⟨T1, X1, e1, st1⟩ := initO X0 hx hZ hown (hw _ (List.mem_of_getElem? (i := 6) rfl)) (hw _ (List.mem_of_getElem? (i := 7) rfl)) (hw _ (List.mem_of_getElem? (i := 8) rfl)) e0 (g := (mkF m 1 #[.val (.ref a1), .val (.int p2)] [(.ref a1)])) rfl (by rw [hml]; rfl) rfl (hb hby d1_1) (by decide) (W := 0) (by show 2 * 0 + _ ≤ _; exact Nat.le_of_eq rfl) (by decide)
  obtain ⟨T2, h2, k2, X2, e2, E2, A2, B2, st2⟩ := newPE X1 hx hZ (hw _ (List.mem_of_getElem? (i := 9) rfl)) e1 (g := (mkF m 6 #[.val (.ref a1), .val (.int p2)] [(.int p2), (.ref a1)])) rfl (hb hby d1_6) rfl hp.1 (cap := 8) hp.2 (by decide) (by decide) (by decide) (ad := "[I") (by decide)
  obtain ⟨b2, g2⟩ : ∃ z, z = h0.size := ⟨_, rfl⟩
  rw [← g2] at A2 B2 st2
  have ne3 : a1 ≠ b2 := Nat.ne_of_lt (Nat.lt_of_lt_of_le E_a1.lt (Nat.le_of_eq g2.symm))
  have g_b2 : n0 ≤ b2 := Nat.le_trans Z0 (Nat.le_of_eq g2.symm)
  have sz_b2 : h0.size ≤ b2 := Nat.le_trans (Keep.refl h0 [a1]).1 (Nat.le_of_eq g2.symm)
  have Z2 : n0 ≤ h2.size := Nat.le_trans Z0 E2.1
  have K2 : Keep h0 h2 [a1] := (Keep.refl h0 [a1]).ext E2
  have V2 : Arv Z h2 b2 k2 .int p2 [] (.int (0 : Int32)) := Arv.new A2 hp.1
  have f4 := (F_seen.ext E2)
  have f5 := (E_a1.ext E2)
  obtain ⟨T6, h6, X6, e6, W6, st6⟩ := putF X2 hx hZ hown (host := "") (Or.inl (hw _ (List.mem_of_getElem? (i := 10) rfl))) Via.refl e2 f4 f5 (Or.inr ⟨(hw _ (List.mem_of_getElem? (i := 11) rfl)), rfl, hnm⟩) (hw _ (List.mem_of_getElem? (i := 1) rfl)) (ty := (.array .int)) (by decide) rfl rfl (g := (mkF m 8 #[.val (.ref a1), .val (.int p2)] [(.ref b2), (.ref a1)])) rfl rfl (hb hby d1_8)
  have Z6 : n0 ≤ h6.size := Nat.le_trans Z2 (Nat.le_of_eq W6.size.symm)
  have K6 : Keep h0 h6 [a1] := K2.wr W6 (Or.inl (List.mem_of_getElem? (i := 0) rfl))
  have N6 := Fr.snoc X6 N0 g_a1
  have Fw6 := f4.same W6
  obtain ⟨T7, h7, k7, X7, e7, E7, A7, B7, st7⟩ := newPE X6 hx hZ (hw _ (List.mem_of_getElem? (i := 9) rfl)) e6 (g := (mkF m 13 #[.val (.ref a1), .val (.int p2)] [(.int p2), (.ref a1)])) rfl (hb hby d1_13) rfl hp.1 (cap := 8) hp.2 (by decide) (by decide) (by decide) (ad := "[I") (by decide)
  obtain ⟨b7, g7⟩ : ∃ z, z = h6.size := ⟨_, rfl⟩
  rw [← g7] at A7 B7 st7
  have f9 := (f5.wr W6)
  have ne8 : a1 ≠ b7 := Nat.ne_of_lt (Nat.lt_of_lt_of_le f9.lt (Nat.le_of_eq g7.symm))
  have f11 := (B2.wr W6)
  have ne10 : b2 ≠ b7 := Nat.ne_of_lt (Nat.lt_of_lt_of_le f11.lt (Nat.le_of_eq g7.symm))
  have g_b7 : n0 ≤ b7 := Nat.le_trans Z6 (Nat.le_of_eq g7.symm)
  have sz_b7 : h0.size ≤ b7 := Nat.le_trans K6.1 (Nat.le_of_eq g7.symm)
  have Z7 : n0 ≤ h7.size := Nat.le_trans Z6 E7.1
  have K7 : Keep h0 h7 [a1] := K6.ext E7
  have V7 : Arv Z h7 b7 k7 .int p2 [] (.int (0 : Int32)) := Arv.new A7 hp.1
  have f12 := (((F_found.ext E2).other W6 (Or.inr (slot_ne (Or.inr (hw _ (List.mem_of_getElem? (i := 13) rfl))) (Or.inr (hw _ (List.mem_of_getElem? (i := 11) rfl))) (by decide) (t := (.array .int)) (t' := (.array .int)) (by decide) (by decide)))).ext E7)
  have f13 := (f9.ext E7)
  obtain ⟨T14, h14, X14, e14, W14, st14⟩ := putF X7 hx hZ hown (host := "") (Or.inl (hw _ (List.mem_of_getElem? (i := 12) rfl))) Via.refl e7 f12 f13 (Or.inr ⟨(hw _ (List.mem_of_getElem? (i := 13) rfl)), rfl, hnm⟩) (hw _ (List.mem_of_getElem? (i := 1) rfl)) (ty := (.array .int)) (by decide) rfl rfl (g := (mkF m 15 #[.val (.ref a1), .val (.int p2)] [(.ref b7), (.ref a1)])) rfl rfl (hb hby d1_15)
  have Z14 : n0 ≤ h14.size := Nat.le_trans Z7 (Nat.le_of_eq W14.size.symm)
  have K14 : Keep h0 h14 [a1] := K7.wr W14 (Or.inl (List.mem_of_getElem? (i := 0) rfl))
  have N14 := Fr.snoc X14 N6 g_a1
  have Fw14 := f12.same W14
  have go15 : own_go p e below (s₁.setTop (entryFrame m #[(.ref a1), (.int p2)] 2)) (T14.setTop (mkF m 18 #[.val (.ref a1), .val (.int p2)] [])) := by
    intro ttx ktx
    refine p0 ttx ?_
    show Steps p.tables e below (s₁.setTop (mkF m 0 #[.val (.ref a1), .val (.int p2)] [])) _
    refine XS.aloadN X0.here hx rfl (hb hby d1_0) rfl rfl ?_
    show Steps p.tables e below (s₁.setTop (mkF m 1 #[.val (.ref a1), .val (.int p2)] [(.ref a1)])) _
    refine st1 _ ?_
    show Steps p.tables e below (T1.setTop (mkF m 4 #[.val (.ref a1), .val (.int p2)] [])) _
    refine XS.aloadN X1.here hx rfl (hb hby d1_4) rfl rfl ?_
    show Steps p.tables e below (T1.setTop (mkF m 5 #[.val (.ref a1), .val (.int p2)] [(.ref a1)])) _
    refine XS.iloadN X1.here hx rfl (hb hby d1_5) rfl ?_
    show Steps p.tables e below (T1.setTop (mkF m 6 #[.val (.ref a1), .val (.int p2)] [(.int p2), (.ref a1)])) _
    refine st2 _ ?_
    show Steps p.tables e below (T2.setTop (mkF m 8 #[.val (.ref a1), .val (.int p2)] [(.ref b2), (.ref a1)])) _
    refine st6 _ ?_
    show Steps p.tables e below (T6.setTop (mkF m 11 #[.val (.ref a1), .val (.int p2)] [])) _
    refine XS.aloadN X6.here hx rfl (hb hby d1_11) rfl rfl ?_
    show Steps p.tables e below (T6.setTop (mkF m 12 #[.val (.ref a1), .val (.int p2)] [(.ref a1)])) _
    refine XS.iloadN X6.here hx rfl (hb hby d1_12) rfl ?_
    show Steps p.tables e below (T6.setTop (mkF m 13 #[.val (.ref a1), .val (.int p2)] [(.int p2), (.ref a1)])) _
    refine st7 _ ?_
    show Steps p.tables e below (T7.setTop (mkF m 15 #[.val (.ref a1), .val (.int p2)] [(.ref b7), (.ref a1)])) _
    refine st14 _ ?_
    exact ktx
  obtain ⟨fs, hr, hrun, hended, hW, hsame⟩ := X14.leave (v := none) (fun _ => rfl)
  refine ⟨_, _, go15 _ ?_, hrun, hended, _, _, rfl, ?_, ⟨_, rfl⟩, hW, hsame.mono (by decide) (by decide)⟩
  · exact X14.returnOut hx Bd.returns (hb hby d1_18) hr
  · show Q1 Z a1 p2 h0 n0 _ T14.heap _
    rw [e14]
    have f16 := (f13.wr W14)
    have f17 := ((Fw6.ext E7).other W14 (Or.inr (slot_ne (Or.inr (hw _ (List.mem_of_getElem? (i := 11) rfl))) (Or.inr (hw _ (List.mem_of_getElem? (i := 13) rfl))) (by decide) (t := (.array .int)) (t' := (.array .int)) (by decide) (by decide))))
    have f18 := ((((F_query.ext E2).other W6 (Or.inr (slot_ne (Or.inl (hw _ (List.mem_of_getElem? (i := 20) rfl))) (Or.inr (hw _ (List.mem_of_getElem? (i := 11) rfl))) (by decide) (t := .int) (t' := (.array .int)) (by decide) (by decide)))).ext E7).other W14 (Or.inr (slot_ne (Or.inl (hw _ (List.mem_of_getElem? (i := 20) rfl))) (Or.inr (hw _ (List.mem_of_getElem? (i := 13) rfl))) (by decide) (t := .int) (t' := (.array .int)) (by decide) (by decide))))
    have f19 := (B7.wr W14)
    have f20 := (((V2.other W6 (Ne.symm ne3)).ext E7).other W14 (Ne.symm ne3))
    have f21 := (V7.other W14 (Ne.symm ne8))
    have f22 := ((((F_count.ext E2).other W6 (Or.inr (slot_ne (Or.inl (hw _ (List.mem_of_getElem? (i := 22) rfl))) (Or.inr (hw _ (List.mem_of_getElem? (i := 11) rfl))) (by decide) (t := .int) (t' := (.array .int)) (by decide) (by decide)))).ext E7).other W14 (Or.inr (slot_ne (Or.inl (hw _ (List.mem_of_getElem? (i := 22) rfl))) (Or.inr (hw _ (List.mem_of_getElem? (i := 13) rfl))) (by decide) (t := .int) (t' := (.array .int)) (by decide) (by decide))))
    exact ⟨rfl, N14, K14, b2, b7, g_b2, g_b7, sz_b2, sz_b7, ne10, f16, f17, Fw14, f18, f19, _, _, _, _, _, f20, f21, f22, fun i _ => ⟨0, rfl, by decide⟩⟩
theorem d3_0 : decode prog_15_method_2_code 0 = .ok (.aload_n 0, 1) := by decide +kernel
theorem d3_1 : decode prog_15_method_2_code 1 = .ok (.dup, 1) := by decide +kernel
theorem d3_2 : decode prog_15_method_2_code 2 = .ok (.getfield 16, 3) := by decide +kernel
theorem d3_5 : decode prog_15_method_2_code 5 = .ok (.iconst 1, 1) := by decide +kernel
theorem d3_6 : decode prog_15_method_2_code 6 = .ok (.iadd, 1) := by decide +kernel
theorem d3_7 : decode prog_15_method_2_code 7 = .ok (.putfield 16, 3) := by decide +kernel
theorem d3_10 : decode prog_15_method_2_code 10 = .ok (.aload_n 0, 1) := by decide +kernel
theorem d3_11 : decode prog_15_method_2_code 11 = .ok (.iconst 0, 1) := by decide +kernel
theorem d3_12 : decode prog_15_method_2_code 12 = .ok (.putfield 20, 3) := by decide +kernel
theorem d3_15 : decode prog_15_method_2_code 15 = .ok (.return_, 1) := by decide +kernel
theorem ef_3 (m : MethodId) (x0 : Addr) : entryFrame m #[(.ref x0)] 1 = mkF m 0 #[.val (.ref x0)] [] := by first | (simp [entryFrame, mkF, argsToLocals, Value.category]; done) | rfl
def Q3 (Z : State) (a1 : Addr) (ts : Addr) (tf : Addr) (n : Int32) (q : Int32) (h0 : Heap) (n0 : Nat) (v : Option Value) (h : Heap) (L : List Loc) : Prop := v = none ∧ Fr n0 L ∧ Keep h0 h [a1] ∧ own_ft Z h a1 ts tf n (q + (1 : Int32)) []
set_option maxRecDepth 65536 in
set_option maxHeartbeats 40000000 in
theorem rm3 (l : Launch) (Z : State) (a0 : Array Value) (hw : ∀ d ∈ tables_1, d.before a0 Z = true) (ws : List Jvm.Cond) (a1 : Addr) (ts : Addr) (tf : Addr) (n : Int32) (q : Int32) (h0 : Heap) (n0 : Nat) (Z0 : n0 ≤ h0.size) (g_a1 : n0 ≤ a1) (ne1 : a1 ≠ ts) (ne2 : a1 ≠ tf) (ne3 : ts ≠ tf) (hfb : own_fb Z h0 a1 ts tf n q) (hq : 0 ≤ q.toInt ∧ q.toInt ≤ 50) (hn : 0 ≤ n.toInt) :
    MetFree l (⟨"com/example/linkwright/linkwright/link/FoundTargets", "start", "()V"⟩ : MethodName) (head1 (Jvm.Cond.code (⟨"com/example/linkwright/linkwright/link/FoundTargets", "start", "()V"⟩ : MethodName) prog_15_method_2_code 1 none :: ws) ({ frames := 0, cells := 0, slots := 0, locals := 0 } : Room)) (fun aax UU => aax = #[(.ref a1)] ∧ Z.Warmed39 UU.vm ∧ UU.heap = h0) (fun _ _ _ _ _ => True) (fun _ UU oux UU' => ∃ rvx Lrx, oux = .returned rvx ∧ Q3 Z a1 ts tf n q h0 n0 rvx UU'.heap Lrx ∧ FrameEnd UU oux UU' Lrx ({ frames := 0, cells := 0, slots := 0, locals := 0 } : Room).cells ({ frames := 0, cells := 0, slots := 0, locals := 0 } : Room).slots) := by
  refine MetFree.of_bodySF (plainFor_of_name own_pn_com_example_linkwright_linkwright_link_FoundTargets) hisR ?_
  intro p e s m args below meth c s₁ Bd hml0 hP hK
  obtain ⟨rfl, hZ, hh⟩ := hP
  have hx := Bd.exec
  have hby := Bd.bytes
  have hml : c.maxLocals = 1 := hml0
  have hown : s.vm.findClass "com/example/linkwright/linkwright/link/FoundTargets" = some m.cls := findClass_of_methodNamed Bd.named
  have hnm := (name_of_methodNamed Bd.named Bd.method).1
  have X0 : Stand p l e ({ frames := 0, cells := 0, slots := 0, locals := 0 } : Room) s m #[(.ref a1)] below meth c s₁ [] 0 0 := Stand.of_body Bd
  have e0 : s₁.heap = h0 := by rw [← hh, Bd.state]; rfl
  have N0 := Fr.nil n0
  have p0 : own_go p e below (s₁.setTop (entryFrame m #[(.ref a1)] 1)) (s₁.setTop (mkF m 0 #[.val (.ref a1)] [])) := fun ttx ktx => castTop (ef_3 m a1) ktx
  obtain ⟨E_a1, F_seen, F_found, F_query, E_tf, k1, k2, sv, fv, sz, V_ts, V_tf, F_count, hsv⟩ := hfb
  have hq1 := c_iadd q 1
  have hq2 := rng32 (q + 1)
  have hq3 : (1 : Int32).toInt = 1 := rfl
  have hq4 : (q + (1 : Int32)).toInt = q.toInt + 1 := by omega
  obtain ⟨T1, X1, e1, st1⟩ := getF X0 hx hZ hown (host := "") (Or.inl (hw _ (List.mem_of_getElem? (i := 19) rfl))) Via.refl e0 F_query (g := (mkF m 2 #[.val (.ref a1)] [(.ref a1), (.ref a1)])) rfl rfl (hb hby d3_2)
  obtain ⟨T2, h2, X2, e2, W2, st2⟩ := putF X1 hx hZ hown (host := "") (Or.inl (hw _ (List.mem_of_getElem? (i := 19) rfl))) Via.refl e1 F_query E_a1 (Or.inl (hw _ (List.mem_of_getElem? (i := 20) rfl))) (hw _ (List.mem_of_getElem? (i := 1) rfl)) (ty := .int) (by decide) rfl rfl (g := (mkF m 7 #[.val (.ref a1)] [(.int (q + (1 : Int32))), (.ref a1)])) rfl rfl (hb hby d3_7)
  have Z2 : n0 ≤ h2.size := Nat.le_trans Z0 (Nat.le_of_eq W2.size.symm)
  have K2 : Keep h0 h2 [a1] := (Keep.refl h0 [a1]).wr W2 (Or.inl (List.mem_of_getElem? (i := 0) rfl))
  have N2 := Fr.snoc X2 N0 g_a1
  have Fw2 := F_query.same W2
  have f3 := (F_count.other W2 (Or.inr (slot_ne (Or.inl (hw _ (List.mem_of_getElem? (i := 22) rfl))) (Or.inl (hw _ (List.mem_of_getElem? (i := 20) rfl))) (by decide) (t := .int) (t' := .int) (by decide) (by decide))))
  have f4 := (E_a1.wr W2)
  obtain ⟨T5, h5, X5, e5, W5, st5⟩ := putF X2 hx hZ hown (host := "") (Or.inl (hw _ (List.mem_of_getElem? (i := 21) rfl))) Via.refl e2 f3 f4 (Or.inl (hw _ (List.mem_of_getElem? (i := 22) rfl))) (hw _ (List.mem_of_getElem? (i := 1) rfl)) (ty := .int) (by decide) rfl rfl (g := (mkF m 12 #[.val (.ref a1)] [(.int (0 : Int32)), (.ref a1)])) rfl rfl (hb hby d3_12)
  have Z5 : n0 ≤ h5.size := Nat.le_trans Z2 (Nat.le_of_eq W5.size.symm)
  have K5 : Keep h0 h5 [a1] := K2.wr W5 (Or.inl (List.mem_of_getElem? (i := 0) rfl))
  have N5 := Fr.snoc X5 N2 g_a1
  have Fw5 := f3.same W5
  have go6 : own_go p e below (s₁.setTop (entryFrame m #[(.ref a1)] 1)) (T5.setTop (mkF m 15 #[.val (.ref a1)] [])) := by
    intro ttx ktx
    refine p0 ttx ?_
    show Steps p.tables e below (s₁.setTop (mkF m 0 #[.val (.ref a1)] [])) _
    refine XS.aloadN X0.here hx rfl (hb hby d3_0) rfl rfl ?_
    show Steps p.tables e below (s₁.setTop (mkF m 1 #[.val (.ref a1)] [(.ref a1)])) _
    refine XS.dup X0.here hx rfl (hb hby d3_1) rfl rfl ?_
    show Steps p.tables e below (s₁.setTop (mkF m 2 #[.val (.ref a1)] [(.ref a1), (.ref a1)])) _
    refine st1 _ ?_
    show Steps p.tables e below (T1.setTop (mkF m 5 #[.val (.ref a1)] [(.int q), (.ref a1)])) _
    refine XS.iconst X1.here hx rfl (hb hby d3_5) ?_
    show Steps p.tables e below (T1.setTop (mkF m 6 #[.val (.ref a1)] [(.int (1 : Int32)), (.int q), (.ref a1)])) _
    refine XS.iadd X1.here hx rfl (hb hby d3_6) rfl ?_
    show Steps p.tables e below (T1.setTop (mkF m 7 #[.val (.ref a1)] [(.int (q + (1 : Int32))), (.ref a1)])) _
    refine st2 _ ?_
    show Steps p.tables e below (T2.setTop (mkF m 10 #[.val (.ref a1)] [])) _
    refine XS.aloadN X2.here hx rfl (hb hby d3_10) rfl rfl ?_
    show Steps p.tables e below (T2.setTop (mkF m 11 #[.val (.ref a1)] [(.ref a1)])) _
    refine XS.iconst X2.here hx rfl (hb hby d3_11) ?_
    show Steps p.tables e below (T2.setTop (mkF m 12 #[.val (.ref a1)] [(.int (0 : Int32)), (.ref a1)])) _
    refine st5 _ ?_
    exact ktx
  obtain ⟨fs, hr, hrun, hended, hW, hsame⟩ := X5.leave (v := none) (fun _ => rfl)
  refine ⟨_, _, go6 _ ?_, hrun, hended, _, _, rfl, ?_, ⟨_, rfl⟩, hW, hsame.mono (by decide) (by decide)⟩
  · exact X5.returnOut hx Bd.returns (hb hby d3_15) hr
  · show Q3 Z a1 ts tf n q h0 n0 _ T5.heap _
    rw [e5]
    have f7 := (f4.wr W5)
    have f8 := ((F_seen.other W2 (Or.inr (slot_ne (Or.inr (hw _ (List.mem_of_getElem? (i := 11) rfl))) (Or.inl (hw _ (List.mem_of_getElem? (i := 20) rfl))) (by decide) (t := (.array .int)) (t' := .int) (by decide) (by decide)))).other W5 (Or.inr (slot_ne (Or.inr (hw _ (List.mem_of_getElem? (i := 11) rfl))) (Or.inl (hw _ (List.mem_of_getElem? (i := 22) rfl))) (by decide) (t := (.array .int)) (t' := .int) (by decide) (by decide))))
    have f9 := ((F_found.other W2 (Or.inr (slot_ne (Or.inr (hw _ (List.mem_of_getElem? (i := 13) rfl))) (Or.inl (hw _ (List.mem_of_getElem? (i := 20) rfl))) (by decide) (t := (.array .int)) (t' := .int) (by decide) (by decide)))).other W5 (Or.inr (slot_ne (Or.inr (hw _ (List.mem_of_getElem? (i := 13) rfl))) (Or.inl (hw _ (List.mem_of_getElem? (i := 22) rfl))) (by decide) (t := (.array .int)) (t' := .int) (by decide) (by decide))))
    have f10 := (Fw2.other W5 (Or.inr (slot_ne (Or.inl (hw _ (List.mem_of_getElem? (i := 20) rfl))) (Or.inl (hw _ (List.mem_of_getElem? (i := 22) rfl))) (by decide) (t := .int) (t' := .int) (by decide) (by decide))))
    have f11 := ((E_tf.wr W2).wr W5)
    have f12 := ((V_ts.other W2 (Ne.symm ne1)).other W5 (Ne.symm ne1))
    have f13 := ((V_tf.other W2 (Ne.symm ne2)).other W5 (Ne.symm ne2))
    exact ⟨rfl, N5, K5, f7, f8, f9, f10, f11, _, _, _, _, f12, f13, Fw5, fun i hi => by obtain ⟨x, h1, h2⟩ := hsv i hi; refine ⟨x, h1, by omega, ?_⟩; exact ⟨fun e => by rw [e] at h2; omega, fun e => by cases e⟩, fun i hi => absurd hi (Nat.not_lt_zero i), by simp; omega⟩
theorem d4_0 : decode prog_15_method_3_code 0 = .ok (.aload_n 0, 1) := by decide +kernel
theorem d4_1 : decode prog_15_method_3_code 1 = .ok (.getfield 7, 3) := by decide +kernel
theorem d4_4 : decode prog_15_method_3_code 4 = .ok (.iload_n 1, 1) := by decide +kernel
theorem d4_5 : decode prog_15_method_3_code 5 = .ok (.iaload, 1) := by decide +kernel
theorem d4_6 : decode prog_15_method_3_code 6 = .ok (.aload_n 0, 1) := by decide +kernel
theorem d4_7 : decode prog_15_method_3_code 7 = .ok (.getfield 16, 3) := by decide +kernel
theorem d4_10 : decode prog_15_method_3_code 10 = .ok (.if_icmp .eq 33, 3) := by decide +kernel
theorem d4_43 : decode prog_15_method_3_code 43 = .ok (.return_, 1) := by decide +kernel
theorem d4_13 : decode prog_15_method_3_code 13 = .ok (.aload_n 0, 1) := by decide +kernel
theorem d4_14 : decode prog_15_method_3_code 14 = .ok (.getfield 7, 3) := by decide +kernel
theorem d4_17 : decode prog_15_method_3_code 17 = .ok (.iload_n 1, 1) := by decide +kernel
theorem d4_18 : decode prog_15_method_3_code 18 = .ok (.aload_n 0, 1) := by decide +kernel
theorem d4_19 : decode prog_15_method_3_code 19 = .ok (.getfield 16, 3) := by decide +kernel
theorem d4_22 : decode prog_15_method_3_code 22 = .ok (.iastore, 1) := by decide +kernel
theorem d4_23 : decode prog_15_method_3_code 23 = .ok (.aload_n 0, 1) := by decide +kernel
theorem d4_24 : decode prog_15_method_3_code 24 = .ok (.getfield 13, 3) := by decide +kernel
theorem d4_27 : decode prog_15_method_3_code 27 = .ok (.aload_n 0, 1) := by decide +kernel
theorem d4_28 : decode prog_15_method_3_code 28 = .ok (.getfield 20, 3) := by decide +kernel
theorem d4_31 : decode prog_15_method_3_code 31 = .ok (.iload_n 1, 1) := by decide +kernel
theorem d4_32 : decode prog_15_method_3_code 32 = .ok (.iastore, 1) := by decide +kernel
theorem d4_33 : decode prog_15_method_3_code 33 = .ok (.aload_n 0, 1) := by decide +kernel
theorem d4_34 : decode prog_15_method_3_code 34 = .ok (.dup, 1) := by decide +kernel
theorem d4_35 : decode prog_15_method_3_code 35 = .ok (.getfield 20, 3) := by decide +kernel
theorem d4_38 : decode prog_15_method_3_code 38 = .ok (.iconst 1, 1) := by decide +kernel
theorem d4_39 : decode prog_15_method_3_code 39 = .ok (.iadd, 1) := by decide +kernel
theorem d4_40 : decode prog_15_method_3_code 40 = .ok (.putfield 20, 3) := by decide +kernel
theorem ef_4 (m : MethodId) (x0 : Addr) (x1 : Int32) : entryFrame m #[(.ref x0), (.int x1)] 2 = mkF m 0 #[.val (.ref x0), .val (.int x1)] [] := by first | (simp [entryFrame, mkF, argsToLocals, Value.category]; done) | rfl
def QADD (Z : State) (a1 : Addr) (p2 : Int32) (ts : Addr) (tf : Addr) (n : Int32) (q : Int32) (xs : List Int32) (h0 : Heap) (n0 : Nat) (v : Option Value) (h : Heap) (L : List Loc) : Prop := v = none ∧ Fr n0 L ∧ Keep h0 h [a1, ts, tf] ∧ own_ft Z h a1 ts tf n q (own_ins xs p2)
set_option maxRecDepth 65536 in
set_option maxHeartbeats 40000000 in
theorem rm4 (l : Launch) (Z : State) (a0 : Array Value) (hw : ∀ d ∈ tables_1, d.before a0 Z = true) (ws : List Jvm.Cond) (a1 : Addr) (p2 : Int32) (ts : Addr) (tf : Addr) (n : Int32) (q : Int32) (xs : List Int32) (h0 : Heap) (n0 : Nat) (Z0 : n0 ≤ h0.size) (g_a1 : n0 ≤ a1) (g_ts : n0 ≤ ts) (g_tf : n0 ≤ tf) (ne1 : a1 ≠ ts) (ne2 : a1 ≠ tf) (ne3 : ts ≠ tf) (hft : own_ft Z h0 a1 ts tf n q xs) (hn : n.toInt ≤ 8) (hp : 0 ≤ p2.toInt ∧ p2.toInt < n.toInt) (hlt : p2 ∉ xs → (xs.length : Int) < n.toInt) :
    MetFree l (⟨"com/example/linkwright/linkwright/link/FoundTargets", "add", "(I)V"⟩ : MethodName) (head1 (Jvm.Cond.code (⟨"com/example/linkwright/linkwright/link/FoundTargets", "add", "(I)V"⟩ : MethodName) prog_15_method_3_code 2 none :: ws) ({ frames := 0, cells := 0, slots := 0, locals := 0 } : Room)) (fun aax UU => aax = #[(.ref a1), (.int p2)] ∧ Z.Warmed39 UU.vm ∧ UU.heap = h0) (fun _ _ _ _ _ => True) (fun _ UU oux UU' => ∃ rvx Lrx, oux = .returned rvx ∧ QADD Z a1 p2 ts tf n q xs h0 n0 rvx UU'.heap Lrx ∧ FrameEnd UU oux UU' Lrx ({ frames := 0, cells := 0, slots := 0, locals := 0 } : Room).cells ({ frames := 0, cells := 0, slots := 0, locals := 0 } : Room).slots) := by
  refine MetFree.of_bodySF (plainFor_of_name own_pn_com_example_linkwright_linkwright_link_FoundTargets) hisR ?_
  intro p e s m args below meth c s₁ Bd hml0 hP hK
  obtain ⟨rfl, hZ, hh⟩ := hP
  have hx := Bd.exec
  have hby := Bd.bytes
  have hml : c.maxLocals = 2 := hml0
  have hown : s.vm.findClass "com/example/linkwright/linkwright/link/FoundTargets" = some m.cls := findClass_of_methodNamed Bd.named
  have hnm := (name_of_methodNamed Bd.named Bd.method).1
  have X0 : Stand p l e ({ frames := 0, cells := 0, slots := 0, locals := 0 } : Room) s m #[(.ref a1), (.int p2)] below meth c s₁ [] 0 0 := Stand.of_body Bd
  have e0 : s₁.heap = h0 := by rw [← hh, Bd.state]; rfl
  have N0 := Fr.nil n0
  have p0 : own_go p e below (s₁.setTop (entryFrame m #[(.ref a1), (.int p2)] 2)) (s₁.setTop (mkF m 0 #[.val (.ref a1), .val (.int p2)] [])) := fun ttx ktx => castTop (ef_4 m a1 p2) ktx
  obtain ⟨E_a1, F_seen, F_found, F_query, E_tf, k1, k2, sv, fv, V_ts, V_tf, F_count, hsv, hfv, hxn⟩ := hft
  obtain ⟨sz, hsz⟩ : ∃ q : Int32, q = Int32.ofNat xs.length := ⟨_, rfl⟩
  rw [← hsz] at F_count
  have hszi : sz.toInt = xs.length := by rw [hsz]; exact own_of _ (by omega)
  have hx8 : (xs.length : Int) ≤ 8 := by omega
  obtain ⟨T1, X1, e1, st1⟩ := getF X0 hx hZ hown (host := "") (Or.inl (hw _ (List.mem_of_getElem? (i := 10) rfl))) Via.refl e0 F_seen (g := (mkF m 1 #[.val (.ref a1), .val (.int p2)] [(.ref a1)])) rfl rfl (hb hby d4_1)
  obtain ⟨cl2, Ar2, q2, S2, M2, H2, G2⟩ := id V_ts
  obtain ⟨x, hx1, hx2, hx3⟩ := hsv p2.toNatClampNeg (by rw [own_tn]; omega)
  rw [own_back hp.1 (by omega)] at hx3
  have hin2 : ¬ (p2 < 0 ∨ cl2.slots.size ≤ (p2).toNatClampNeg) := inb_of S2 ⟨own_nn hp.1, Int32.lt_iff_toInt_lt.mpr hp.2⟩
  have hat2 := Has.at H2 hin2 hx1
  obtain ⟨T3, X3, e3, st3⟩ := getF X1 hx hZ hown (host := "") (Or.inl (hw _ (List.mem_of_getElem? (i := 19) rfl))) Via.refl e1 F_query (g := (mkF m 7 #[.val (.ref a1), .val (.int p2)] [(.ref a1), (.int x)])) rfl rfl (hb hby d4_7)
  have go4 : own_go p e below (s₁.setTop (entryFrame m #[(.ref a1), (.int p2)] 2)) (T3.setTop (mkF m 10 #[.val (.ref a1), .val (.int p2)] [(.int q), (.int x)])) := by
    intro ttx ktx
    refine p0 ttx ?_
    show Steps p.tables e below (s₁.setTop (mkF m 0 #[.val (.ref a1), .val (.int p2)] [])) _
    refine XS.aloadN X0.here hx rfl (hb hby d4_0) rfl rfl ?_
    show Steps p.tables e below (s₁.setTop (mkF m 1 #[.val (.ref a1), .val (.int p2)] [(.ref a1)])) _
    refine st1 _ ?_
    show Steps p.tables e below (T1.setTop (mkF m 4 #[.val (.ref a1), .val (.int p2)] [(.ref ts)])) _
    refine XS.iloadN X1.here hx rfl (hb hby d4_4) rfl ?_
    show Steps p.tables e below (T1.setTop (mkF m 5 #[.val (.ref a1), .val (.int p2)] [(.int p2), (.ref ts)])) _
    refine X1.iaload hx (j := p2) (v := (.int x)) (own_hp e1 Ar2.1) (State.isArrayOf_alike hZ.alike Ar2.2.1) Ar2.2.2 hin2 hat2 (g := (mkF m 5 #[.val (.ref a1), .val (.int p2)] [(.int p2), (.ref ts)])) rfl rfl (hb hby d4_5) _ ?_
    show Steps p.tables e below (T1.setTop (mkF m 6 #[.val (.ref a1), .val (.int p2)] [(.int x)])) _
    refine XS.aloadN X1.here hx rfl (hb hby d4_6) rfl rfl ?_
    show Steps p.tables e below (T1.setTop (mkF m 7 #[.val (.ref a1), .val (.int p2)] [(.ref a1), (.int x)])) _
    refine st3 _ ?_
    exact ktx
  by_cases hc5_10 : x = q
  · have go6 : own_go p e below (s₁.setTop (entryFrame m #[(.ref a1), (.int p2)] 2)) (T3.setTop (mkF m 43 #[.val (.ref a1), .val (.int p2)] [])) := by
      intro ttx ktx
      refine go4 ttx ?_
      show Steps p.tables e below (T3.setTop (mkF m 10 #[.val (.ref a1), .val (.int p2)] [(.int q), (.int x)])) _
      refine XS.icmpYes X3.here hx rfl (pc0 := 10) (pc' := 43) rfl (hb hby d4_10) rfl (teq hc5_10).1 (by decide) (by decide) ?_
      exact ktx
    obtain ⟨fs, hr, hrun, hended, hW, hsame⟩ := X3.leave (v := none) (fun _ => rfl)
    refine ⟨_, _, go6 _ ?_, hrun, hended, _, _, rfl, ?_, ⟨_, rfl⟩, hW, hsame.mono (by decide) (by decide)⟩
    · exact X3.returnOut hx Bd.returns (hb hby d4_43) hr
    · show QADD Z a1 p2 ts tf n q xs h0 n0 _ T3.heap _
      rw [e3]
      have e : own_ins xs p2 = xs := if_pos (hx3.mp hc5_10)
      unfold QADD
      rw [e]
      exact ⟨rfl, N0, (Keep.refl h0 [a1, ts, tf]), E_a1, F_seen, F_found, F_query, E_tf, _, _, _, _, V_ts, V_tf, by rw [← hsz]; exact F_count, hsv, hfv, hxn⟩
  · obtain ⟨T7, X7, e7, st7⟩ := getF X3 hx hZ hown (host := "") (Or.inl (hw _ (List.mem_of_getElem? (i := 10) rfl))) Via.refl e3 F_seen (g := (mkF m 14 #[.val (.ref a1), .val (.int p2)] [(.ref a1)])) rfl rfl (hb hby d4_14)
    obtain ⟨T8, X8, e8, st8⟩ := getF X7 hx hZ hown (host := "") (Or.inl (hw _ (List.mem_of_getElem? (i := 19) rfl))) Via.refl e7 F_query (g := (mkF m 19 #[.val (.ref a1), .val (.int p2)] [(.ref a1), (.int p2), (.ref ts)])) rfl rfl (hb hby d4_19)
    have Vp9 := V_ts.pad (pad_rep sv (.int (0 : Int32)) 20)
    obtain ⟨cl10, Ar10, q10, S10, M10, H10, G10⟩ := id Vp9
    have hin10 : ¬ (p2 < 0 ∨ cl10.slots.size ≤ (p2).toNatClampNeg) := inb_of S10 ⟨own_nn hp.1, Int32.lt_iff_toInt_lt.mpr hp.2⟩
    obtain ⟨T11, h11, X11, e11, W11, st11⟩ := stI X8 hx hZ e8 Ar10 (j := p2) hin10 (g := (mkF m 22 #[.val (.ref a1), .val (.int p2)] [(.int q), (.int p2), (.ref ts)])) rfl rfl (hb hby d4_22)
    have Z11 : n0 ≤ h11.size := Nat.le_trans Z0 (Nat.le_of_eq W11.size.symm)
    have K11 : Keep h0 h11 [a1, ts, tf] := (Keep.refl h0 [a1, ts, tf]).wr W11 (Or.inl (List.mem_of_getElem? (i := 1) rfl))
    have N11 := Fr.snoc X11 N0 g_ts
    have V11 := Arv.set Ar10 q10 S10 M10 H10 G10 rfl W11 p2.toNatClampNeg rfl (by rw [own_tn, List.length_append, List.length_replicate]; omega)
    have f12 := (F_found.other W11 (Or.inl ne1))
    obtain ⟨T13, X13, e13, st13⟩ := getF X11 hx hZ hown (host := "") (Or.inl (hw _ (List.mem_of_getElem? (i := 12) rfl))) Via.refl e11 f12 (g := (mkF m 24 #[.val (.ref a1), .val (.int p2)] [(.ref a1)])) rfl rfl (hb hby d4_24)
    have f14 := (F_count.other W11 (Or.inl ne1))
    obtain ⟨T15, X15, e15, st15⟩ := getF X13 hx hZ hown (host := "") (Or.inl (hw _ (List.mem_of_getElem? (i := 21) rfl))) Via.refl e13 f14 (g := (mkF m 28 #[.val (.ref a1), .val (.int p2)] [(.ref a1), (.ref tf)])) rfl rfl (hb hby d4_28)
    have f16 := (V_tf.other W11 (Ne.symm ne3))
    have Vp17 := f16.pad (pad_rep fv (.int (0 : Int32)) 20)
    obtain ⟨cl18, Ar18, q18, S18, M18, H18, G18⟩ := id Vp17
    have hlt2 := hlt (fun z => hc5_10 (hx3.mpr z))
    have hin18 : ¬ (sz < 0 ∨ cl18.slots.size ≤ (sz).toNatClampNeg) := inb_of S18 ⟨own_nn (by omega), Int32.lt_iff_toInt_lt.mpr (by omega)⟩
    obtain ⟨T19, h19, X19, e19, W19, st19⟩ := stI X15 hx hZ e15 Ar18 (j := sz) hin18 (g := (mkF m 32 #[.val (.ref a1), .val (.int p2)] [(.int p2), (.int sz), (.ref tf)])) rfl rfl (hb hby d4_32)
    have Z19 : n0 ≤ h19.size := Nat.le_trans Z11 (Nat.le_of_eq W19.size.symm)
    have K19 : Keep h0 h19 [a1, ts, tf] := K11.wr W19 (Or.inl (List.mem_of_getElem? (i := 2) rfl))
    have N19 := Fr.snoc X19 N11 g_tf
    have V19 := Arv.set Ar18 q18 S18 M18 H18 G18 rfl W19 sz.toNatClampNeg rfl (by rw [own_tn, List.length_append, List.length_replicate]; omega)
    have go20 : own_go p e below (s₁.setTop (entryFrame m #[(.ref a1), (.int p2)] 2)) (T19.setTop (mkF m 35 #[.val (.ref a1), .val (.int p2)] [(.ref a1), (.ref a1)])) := by
      intro ttx ktx
      refine go4 ttx ?_
      show Steps p.tables e below (T3.setTop (mkF m 10 #[.val (.ref a1), .val (.int p2)] [(.int q), (.int x)])) _
      refine XS.icmpNo X3.here hx rfl (hb hby d4_10) rfl (feq hc5_10).1 ?_
      show Steps p.tables e below (T3.setTop (mkF m 13 #[.val (.ref a1), .val (.int p2)] [])) _
      refine XS.aloadN X3.here hx rfl (hb hby d4_13) rfl rfl ?_
      show Steps p.tables e below (T3.setTop (mkF m 14 #[.val (.ref a1), .val (.int p2)] [(.ref a1)])) _
      refine st7 _ ?_
      show Steps p.tables e below (T7.setTop (mkF m 17 #[.val (.ref a1), .val (.int p2)] [(.ref ts)])) _
      refine XS.iloadN X7.here hx rfl (hb hby d4_17) rfl ?_
      show Steps p.tables e below (T7.setTop (mkF m 18 #[.val (.ref a1), .val (.int p2)] [(.int p2), (.ref ts)])) _
      refine XS.aloadN X7.here hx rfl (hb hby d4_18) rfl rfl ?_
      show Steps p.tables e below (T7.setTop (mkF m 19 #[.val (.ref a1), .val (.int p2)] [(.ref a1), (.int p2), (.ref ts)])) _
      refine st8 _ ?_
      show Steps p.tables e below (T8.setTop (mkF m 22 #[.val (.ref a1), .val (.int p2)] [(.int q), (.int p2), (.ref ts)])) _
      refine st11 _ ?_
      show Steps p.tables e below (T11.setTop (mkF m 23 #[.val (.ref a1), .val (.int p2)] [])) _
      refine XS.aloadN X11.here hx rfl (hb hby d4_23) rfl rfl ?_
      show Steps p.tables e below (T11.setTop (mkF m 24 #[.val (.ref a1), .val (.int p2)] [(.ref a1)])) _
      refine st13 _ ?_
      show Steps p.tables e below (T13.setTop (mkF m 27 #[.val (.ref a1), .val (.int p2)] [(.ref tf)])) _
      refine XS.aloadN X13.here hx rfl (hb hby d4_27) rfl rfl ?_
      show Steps p.tables e below (T13.setTop (mkF m 28 #[.val (.ref a1), .val (.int p2)] [(.ref a1), (.ref tf)])) _
      refine st15 _ ?_
      show Steps p.tables e below (T15.setTop (mkF m 31 #[.val (.ref a1), .val (.int p2)] [(.int sz), (.ref tf)])) _
      refine XS.iloadN X15.here hx rfl (hb hby d4_31) rfl ?_
      show Steps p.tables e below (T15.setTop (mkF m 32 #[.val (.ref a1), .val (.int p2)] [(.int p2), (.int sz), (.ref tf)])) _
      refine st19 _ ?_
      show Steps p.tables e below (T19.setTop (mkF m 33 #[.val (.ref a1), .val (.int p2)] [])) _
      refine XS.aloadN X19.here hx rfl (hb hby d4_33) rfl rfl ?_
      show Steps p.tables e below (T19.setTop (mkF m 34 #[.val (.ref a1), .val (.int p2)] [(.ref a1)])) _
      refine XS.dup X19.here hx rfl (hb hby d4_34) rfl rfl ?_
      exact ktx
    have f21 := (f14.other W19 (Or.inl ne2))
    obtain ⟨T22, X22, e22, st22⟩ := getF X19 hx hZ hown (host := "") (Or.inl (hw _ (List.mem_of_getElem? (i := 21) rfl))) Via.refl e19 f21 (g := (mkF m 35 #[.val (.ref a1), .val (.int p2)] [(.ref a1), (.ref a1)])) rfl rfl (hb hby d4_35)
    have f23 := ((E_a1.wr W11).wr W19)
    obtain ⟨T24, h24, X24, e24, W24, st24⟩ := putF X22 hx hZ hown (host := "") (Or.inl (hw _ (List.mem_of_getElem? (i := 21) rfl))) Via.refl e22 f21 f23 (Or.inl (hw _ (List.mem_of_getElem? (i := 22) rfl))) (hw _ (List.mem_of_getElem? (i := 1) rfl)) (ty := .int) (by decide) rfl rfl (g := (mkF m 40 #[.val (.ref a1), .val (.int p2)] [(.int (sz + (1 : Int32))), (.ref a1)])) rfl rfl (hb hby d4_40)
    have Z24 : n0 ≤ h24.size := Nat.le_trans Z19 (Nat.le_of_eq W24.size.symm)
    have K24 : Keep h0 h24 [a1, ts, tf] := K19.wr W24 (Or.inl (List.mem_of_getElem? (i := 0) rfl))
    have N24 := Fr.snoc X24 N19 g_a1
    have Fw24 := f21.same W24
    have go25 : own_go p e below (s₁.setTop (entryFrame m #[(.ref a1), (.int p2)] 2)) (T24.setTop (mkF m 43 #[.val (.ref a1), .val (.int p2)] [])) := by
      intro ttx ktx
      refine go20 ttx ?_
      show Steps p.tables e below (T19.setTop (mkF m 35 #[.val (.ref a1), .val (.int p2)] [(.ref a1), (.ref a1)])) _
      refine st22 _ ?_
      show Steps p.tables e below (T22.setTop (mkF m 38 #[.val (.ref a1), .val (.int p2)] [(.int sz), (.ref a1)])) _
      refine XS.iconst X22.here hx rfl (hb hby d4_38) ?_
      show Steps p.tables e below (T22.setTop (mkF m 39 #[.val (.ref a1), .val (.int p2)] [(.int (1 : Int32)), (.int sz), (.ref a1)])) _
      refine XS.iadd X22.here hx rfl (hb hby d4_39) rfl ?_
      show Steps p.tables e below (T22.setTop (mkF m 40 #[.val (.ref a1), .val (.int p2)] [(.int (sz + (1 : Int32))), (.ref a1)])) _
      refine st24 _ ?_
      exact ktx
    obtain ⟨fs, hr, hrun, hended, hW, hsame⟩ := X24.leave (v := none) (fun _ => rfl)
    refine ⟨_, _, go25 _ ?_, hrun, hended, _, _, rfl, ?_, ⟨_, rfl⟩, hW, hsame.mono (by decide) (by decide)⟩
    · exact X24.returnOut hx Bd.returns (hb hby d4_43) hr
    · show QADD Z a1 p2 ts tf n q xs h0 n0 _ T24.heap _
      rw [e24]
      have f26 := (((F_seen.other W11 (Or.inl ne1)).other W19 (Or.inl ne2)).other W24 (Or.inr (slot_ne (Or.inr (hw _ (List.mem_of_getElem? (i := 11) rfl))) (Or.inl (hw _ (List.mem_of_getElem? (i := 22) rfl))) (by decide) (t := (.array .int)) (t' := .int) (by decide) (by decide))))
      have f27 := ((f12.other W19 (Or.inl ne2)).other W24 (Or.inr (slot_ne (Or.inr (hw _ (List.mem_of_getElem? (i := 13) rfl))) (Or.inl (hw _ (List.mem_of_getElem? (i := 22) rfl))) (by decide) (t := (.array .int)) (t' := .int) (by decide) (by decide))))
      have f28 := (((F_query.other W11 (Or.inl ne1)).other W19 (Or.inl ne2)).other W24 (Or.inr (slot_ne (Or.inl (hw _ (List.mem_of_getElem? (i := 20) rfl))) (Or.inl (hw _ (List.mem_of_getElem? (i := 22) rfl))) (by decide) (t := .int) (t' := .int) (by decide) (by decide))))
      have f29 := (f23.wr W24)
      have f30 := (((E_tf.wr W11).wr W19).wr W24)
      have f31 := ((V11.other W19 ne3).other W24 (Ne.symm ne1))
      have f32 := (V19.other W24 (Ne.symm ne2))
      have e : own_ins xs p2 = xs ++ [p2] := if_neg (fun z => hc5_10 (hx3.mpr z))
      unfold QADD
      rw [e]
      exact ⟨rfl, N24, K24, f29, f26, f27, f28, f30, _, _, _, _, f31, f32, by rw [List.length_append]; show Fld Z _ _ _ _ _ (.int (Int32.ofNat (xs.length + 1))); rw [← own_up, ← hsz]; exact Fw24, own_see sv xs n q p2 hp.1 hp.2 (by omega) hsv, fun i hi => own_snoc _ _ _ _ _ (by rw [own_tn]; omega) (by rw [own_tn, List.length_append, List.length_replicate]; omega) (own_pad fv xs hfv) hi, by rw [List.length_append]; show ((xs.length + 1 : Nat) : Int) ≤ n.toInt; omega⟩
theorem d5_0 : decode prog_15_method_4_code 0 = .ok (.aload_n 0, 1) := by decide +kernel
theorem d5_1 : decode prog_15_method_4_code 1 = .ok (.getfield 13, 3) := by decide +kernel
theorem d5_4 : decode prog_15_method_4_code 4 = .ok (.aload_n 0, 1) := by decide +kernel
theorem d5_5 : decode prog_15_method_4_code 5 = .ok (.getfield 20, 3) := by decide +kernel
theorem own_pd2 : parseMethodDescriptor "([II)[I" = some ⟨[(.array .int), .int], some (.array .int)⟩ := by decide +kernel
theorem d5_8 : decode prog_15_method_4_code 8 = .ok (.invokestatic 23, 3) := by decide +kernel
theorem d5_11 : decode prog_15_method_4_code 11 = .ok (.astore_n 1, 1) := by decide +kernel
theorem d5_12 : decode prog_15_method_4_code 12 = .ok (.aload_n 1, 1) := by decide +kernel
theorem d5_13 : decode prog_15_method_4_code 13 = .ok (.invokestatic 29, 3) := by decide +kernel
theorem d5_16 : decode prog_15_method_4_code 16 = .ok (.aload_n 1, 1) := by decide +kernel
theorem d5_17 : decode prog_15_method_4_code 17 = .ok (.areturn, 1) := by decide +kernel
theorem ef_5 (m : MethodId) (x0 : Addr) : entryFrame m #[(.ref x0)] 2 = mkF m 0 #[.val (.ref x0), .unset] [] := by first | (simp [entryFrame, mkF, argsToLocals, Value.category]; done) | rfl
def Q5 (Z : State) (a1 : Addr) (ts : Addr) (tf : Addr) (n : Int32) (q : Int32) (xs : List Int32) (h0 : Heap) (n0 : Nat) (v : Option Value) (h : Heap) (L : List Loc) : Prop := ∃ (b : Addr) (kb : ClassId) (ys : List Int32), v = some (.ref b) ∧ Fr n0 L ∧ Keep h0 h [] ∧ h0.size ≤ b ∧ Arv Z h b kb .int (Int32.ofNat xs.length) (ys.map Value.int) (.int (0 : Int32)) ∧ ys.Perm xs ∧ ys.Pairwise (· ≤ ·)
set_option maxRecDepth 65536 in
set_option maxHeartbeats 40000000 in
theorem rm5 (l : Launch) (Z : State) (a0 : Array Value) (hw : ∀ d ∈ tables_1, d.before a0 Z = true) (ws : List Jvm.Cond) (a1 : Addr) (ts : Addr) (tf : Addr) (n : Int32) (q : Int32) (xs : List Int32) (h0 : Heap) (n0 : Nat) (Z0 : n0 ≤ h0.size) (ne1 : a1 ≠ ts) (ne2 : a1 ≠ tf) (ne3 : ts ≠ tf) (hft : own_ft Z h0 a1 ts tf n q xs) (hn : n.toInt ≤ 8) :
    MetFree l (⟨"com/example/linkwright/linkwright/link/FoundTargets", "ascending", "()[I"⟩ : MethodName) (head1 (Jvm.Cond.code (⟨"com/example/linkwright/linkwright/link/FoundTargets", "ascending", "()[I"⟩ : MethodName) prog_15_method_4_code 2 (some (.array .int)) :: ws) ({ frames := 5, cells := 1, slots := 16, locals := 162 } : Room)) (fun aax UU => aax = #[(.ref a1)] ∧ Z.Warmed39 UU.vm ∧ UU.heap = h0) (fun _ _ _ _ _ => True) (fun _ UU oux UU' => ∃ rvx Lrx, oux = .returned rvx ∧ Q5 Z a1 ts tf n q xs h0 n0 rvx UU'.heap Lrx ∧ FrameEnd UU oux UU' Lrx ({ frames := 5, cells := 1, slots := 16, locals := 162 } : Room).cells ({ frames := 5, cells := 1, slots := 16, locals := 162 } : Room).slots) := by
  refine MetFree.of_bodySF (plainFor_of_name own_pn_com_example_linkwright_linkwright_link_FoundTargets) hisR ?_
  intro p e s m args below meth c s₁ Bd hml0 hP hK
  obtain ⟨rfl, hZ, hh⟩ := hP
  have hx := Bd.exec
  have hby := Bd.bytes
  have hml : c.maxLocals = 2 := hml0
  have hown : s.vm.findClass "com/example/linkwright/linkwright/link/FoundTargets" = some m.cls := findClass_of_methodNamed Bd.named
  have hnm := (name_of_methodNamed Bd.named Bd.method).1
  have X0 : Stand p l e ({ frames := 5, cells := 1, slots := 16, locals := 162 } : Room) s m #[(.ref a1)] below meth c s₁ [] 0 0 := Stand.of_body Bd
  have e0 : s₁.heap = h0 := by rw [← hh, Bd.state]; rfl
  have N0 := Fr.nil n0
  have p0 : own_go p e below (s₁.setTop (entryFrame m #[(.ref a1)] 2)) (s₁.setTop (mkF m 0 #[.val (.ref a1), .unset] [])) := fun ttx ktx => castTop (ef_5 m a1) ktx
  obtain ⟨E_a1, F_seen, F_found, F_query, E_tf, k1, k2, sv, fv, V_ts, V_tf, F_count, hsv, hfv, hxn⟩ := hft
  obtain ⟨sz, hsz⟩ : ∃ q : Int32, q = Int32.ofNat xs.length := ⟨_, rfl⟩
  rw [← hsz] at F_count
  have hszi : sz.toInt = xs.length := by rw [hsz]; exact own_of _ (by omega)
  have hx8 : (xs.length : Int) ≤ 8 := by omega
  obtain ⟨T1, X1, e1, st1⟩ := getF X0 hx hZ hown (host := "") (Or.inl (hw _ (List.mem_of_getElem? (i := 12) rfl))) Via.refl e0 F_found (g := (mkF m 1 #[.val (.ref a1), .unset] [(.ref a1)])) rfl rfl (hb hby d5_1)
  obtain ⟨T2, X2, e2, st2⟩ := getF X1 hx hZ hown (host := "") (Or.inl (hw _ (List.mem_of_getElem? (i := 21) rfl))) Via.refl e1 F_count (g := (mkF m 5 #[.val (.ref a1), .unset] [(.ref a1), (.ref tf)])) rfl rfl (hb hby d5_5)
  obtain ⟨_, _, ⟨T3, L3, k3, n3⟩, -, X3, ⟨Lc3, hQ3, l3, y3, z3⟩, st3⟩ := Jvm.LawKit.callS X2 hx (y := (⟨"java/util/Arrays", "copyOf", "([II)[I"⟩ : MethodName)) hown (mvT hZ (hw _ (List.mem_of_getElem? (i := 33) rfl))) (mvT hZ (hw _ (List.mem_of_getElem? (i := 34) rfl))) (mvT hZ (hw _ (List.mem_of_getElem? (i := 35) rfl))) (mvT hZ (hw _ (List.mem_of_getElem? (i := 36) rfl))) (by decide) (backOf (W := 0) (rmCPY l Z a0 hw [] tf sz k2 n fv h0 n0 Z0 V_tf E_tf (by omega) (by omega)) hZ (hw _ (List.mem_of_getElem? (i := 36) rfl)) (hw _ (List.mem_of_getElem? (i := 35) rfl)) (by decide) (by decide)) (g := (mkF m 8 #[.val (.ref a1), .unset] [(.int sz), (.ref tf)])) rfl (by rw [hml]; rfl) (argsL := [(.ref tf), (.int sz)]) (rest := []) (lenOf own_pd2 rfl) rfl (by show 2 * 0 + _ ≤ _; exact Nat.le_of_eq rfl) (hb hby d5_8) (fun _ _ => ⟨rfl, e2, (by decide : 0 + 1 ≤ _), (by decide : 0 + 16 ≤ _)⟩)
  dsimp only [Pt.U, Pt.locs, Pt.cells, Pt.slots] at X3 l3 y3 z3 st3 hQ3
  subst l3 y3 z3
  obtain ⟨b3, kb3, ws3, rfl, Nq3, Kq3, sq3, Eq3, Vq3, hq3⟩ := hQ3
  have N3 := Fr.app N0 Nq3
  have ne4 : a1 ≠ b3 := Nat.ne_of_lt (Nat.lt_of_lt_of_le E_a1.lt sq3)
  have ne5 : tf ≠ b3 := Nat.ne_of_lt (Nat.lt_of_lt_of_le E_tf.lt sq3)
  have ne6 : ts ≠ b3 := Nat.ne_of_lt (Nat.lt_of_lt_of_le V_ts.lt sq3)
  have g_b3 : n0 ≤ b3 := Nat.le_trans Z0 sq3
  have sz_b3 : h0.size ≤ b3 := Nat.le_trans (Keep.refl h0 []).1 sq3
  have Z3 : n0 ≤ T3.heap.size := Nat.le_trans Z0 Kq3.1
  have K3 : Keep h0 T3.heap [] := (Keep.refl h0 []).trans Kq3 all0
  have go7 : own_go p e below (s₁.setTop (entryFrame m #[(.ref a1)] 2)) (T3.setTop (mkF m 13 #[.val (.ref a1), .val (.ref b3)] [(.ref b3)])) := by
    intro ttx ktx
    refine p0 ttx ?_
    show Steps p.tables e below (s₁.setTop (mkF m 0 #[.val (.ref a1), .unset] [])) _
    refine XS.aloadN X0.here hx rfl (hb hby d5_0) rfl rfl ?_
    show Steps p.tables e below (s₁.setTop (mkF m 1 #[.val (.ref a1), .unset] [(.ref a1)])) _
    refine st1 _ ?_
    show Steps p.tables e below (T1.setTop (mkF m 4 #[.val (.ref a1), .unset] [(.ref tf)])) _
    refine XS.aloadN X1.here hx rfl (hb hby d5_4) rfl rfl ?_
    show Steps p.tables e below (T1.setTop (mkF m 5 #[.val (.ref a1), .unset] [(.ref a1), (.ref tf)])) _
    refine st2 _ ?_
    show Steps p.tables e below (T2.setTop (mkF m 8 #[.val (.ref a1), .unset] [(.int sz), (.ref tf)])) _
    refine st3 _ ?_
    show Steps p.tables e below (T3.setTop (mkF m 11 #[.val (.ref a1), .unset] [(.ref b3)])) _
    refine XS.astoreN X3.here hx rfl (hb hby d5_11) rfl rfl (l' := #[.val (.ref a1), .val (.ref b3)]) rfl ?_
    show Steps p.tables e below (T3.setTop (mkF m 12 #[.val (.ref a1), .val (.ref b3)] [])) _
    refine XS.aloadN X3.here hx rfl (hb hby d5_12) rfl rfl ?_
    exact ktx
  have Vs : Arv Z T3.heap b3 kb3 .int sz (xs.map Value.int) (.int (0 : Int32)) := by
    obtain ⟨cl, A, q1, S1, M1, H1, G1⟩ := Vq3
    have hS : cl.slots.size = xs.length := by rw [S1, own_tn]; omega
    have hg : ∀ i, i < cl.slots.size → ws3.getD i (.int (0 : Int32)) = (xs.map Value.int).getD i (.int (0 : Int32)) := fun i hi => by rw [own_getD Value.int xs 0 i, hq3 i (by rw [own_tn]; omega) (by rw [own_tn]; omega)]; exact hfv i (by omega)
    exact ⟨cl, A, q1, S1, M1, fun i hi => by rw [← hg i hi]; exact H1 i hi, fun i hi => by rw [← hg i hi]; exact G1 i hi⟩
  obtain ⟨T8, h8, L8, ys, X8, e8, N8, Kc8, Vy, hperm, hpw, st8⟩ := own_sort X3 hx hZ hw hown (hw _ (List.mem_of_getElem? (i := 46) rfl)) rfl Vs hszi (by omega) N3 g_b3 (g := (mkF m 13 #[.val (.ref a1), .val (.ref b3)] [(.ref b3)])) rfl (by rw [hml]; rfl) rfl (hb hby d5_13) (W := 0) (by show 2 * 0 + _ ≤ _; exact Nat.le_of_eq rfl) (by decide) (by decide) (by decide) (by decide)
  have Z8 : n0 ≤ h8.size := Nat.le_trans Z3 Kc8.1
  have K8 : Keep h0 h8 [] := K3.trans Kc8 (allS (Or.inr sz_b3) all0)
  have go9 : own_go p e below (s₁.setTop (entryFrame m #[(.ref a1)] 2)) (T8.setTop (mkF m 17 #[.val (.ref a1), .val (.ref b3)] [(.ref b3)])) := by
    intro ttx ktx
    refine go7 ttx ?_
    show Steps p.tables e below (T3.setTop (mkF m 13 #[.val (.ref a1), .val (.ref b3)] [(.ref b3)])) _
    refine st8 _ ?_
    show Steps p.tables e below (T8.setTop (mkF m 16 #[.val (.ref a1), .val (.ref b3)] [])) _
    refine XS.aloadN X8.here hx rfl (hb hby d5_16) rfl rfl ?_
    exact ktx
  obtain ⟨fs, hr, hrun, hended, hW, hsame⟩ := X8.leave (v := some (.ref b3)) (fun h => by rw [Bd.returns] at h; cases h)
  refine ⟨_, _, go9 _ ?_, hrun, hended, _, _, rfl, ?_, ⟨_, rfl⟩, hW, hsame.mono (by decide) (by decide)⟩
  · exact retOut X8 hx Bd.returns rfl (Or.inr (Or.inr (Or.inr (Or.inr ⟨rfl, rfl, rfl⟩)))) (hb hby d5_17) hr
  · show Q5 Z a1 ts tf n q xs h0 n0 _ T8.heap _
    rw [e8]
    exact ⟨b3, _, ys, rfl, N8, K8, sz_b3, by rw [← hsz]; exact Vy, hperm, hpw⟩
theorem own_ft.keep0 {Z : State} {h h' : Heap} {r ts tf : Addr} {n q : Int32} {xs : List Int32} (F : own_ft Z h r ts tf n q xs) (K : Keep h h' []) : own_ft Z h' r ts tf n q xs := by
  obtain ⟨a1, a2, a3, a4, a5, k1, k2, sv, fv, b1, b2, b3, b4⟩ := F
  exact ⟨a1.keep K, a2.keep K nin0, a3.keep K nin0, a4.keep K nin0, a5.keep K, k1, k2, sv, fv, b1.keep K nin0, b2.keep K nin0, b3.keep K nin0, b4⟩
theorem own_ne_s {Z : State} {h : Heap} {r ts tf b : Addr} {n q : Int32} {xs : List Int32} (F : own_ft Z h r ts tf n q xs) (K : h.size ≤ b) : ts ≠ b := by
  obtain ⟨a1, a2, a3, a4, a5, k1, k2, sv, fv, b1, b2, b3, b4⟩ := F
  exact Nat.ne_of_lt (Nat.lt_of_lt_of_le b1.lt K)
theorem own_ne_f {Z : State} {h : Heap} {r ts tf b : Addr} {n q : Int32} {xs : List Int32} (F : own_ft Z h r ts tf n q xs) (K : h.size ≤ b) : tf ≠ b := by
  obtain ⟨a1, a2, a3, a4, a5, k1, k2, sv, fv, b1, b2, b3, b4⟩ := F
  exact Nat.ne_of_lt (Nat.lt_of_lt_of_le b2.lt K)
def own_bs (m : Int32) : List Int32 := (if (m &&& (1 : Int32)) = (0 : Int32) then [] else [0]) ++ (if (m &&& (2 : Int32)) = (0 : Int32) then [] else [1]) ++ (if (m &&& (4 : Int32)) = (0 : Int32) then [] else [2]) ++ (if (m &&& (8 : Int32)) = (0 : Int32) then [] else [3])
theorem d12_0 : decode method_3_code 0 = .ok (.iconst 4, 1) := by decide +kernel
theorem d12_1 : decode method_3_code 1 = .ok (.newarray .int, 2) := by decide +kernel
theorem d12_3 : decode method_3_code 3 = .ok (.astore_n 2, 1) := by decide +kernel
theorem d12_4 : decode method_3_code 4 = .ok (.iconst 0, 1) := by decide +kernel
theorem d12_5 : decode method_3_code 5 = .ok (.istore_n 3, 1) := by decide +kernel
theorem d12_6 : decode method_3_code 6 = .ok (.iload_n 1, 1) := by decide +kernel
theorem d12_7 : decode method_3_code 7 = .ok (.iconst 1, 1) := by decide +kernel
theorem d12_8 : decode method_3_code 8 = .ok (.iand, 1) := by decide +kernel
theorem d12_9 : decode method_3_code 9 = .ok (.ifCond .eq 10, 3) := by decide +kernel
theorem d12_19 : decode method_3_code 19 = .ok (.iload_n 1, 1) := by decide +kernel
theorem d12_20 : decode method_3_code 20 = .ok (.iconst 2, 1) := by decide +kernel
theorem d12_21 : decode method_3_code 21 = .ok (.iand, 1) := by decide +kernel
theorem d12_22 : decode method_3_code 22 = .ok (.ifCond .eq 10, 3) := by decide +kernel
theorem d12_32 : decode method_3_code 32 = .ok (.iload_n 1, 1) := by decide +kernel
theorem d12_33 : decode method_3_code 33 = .ok (.iconst 4, 1) := by decide +kernel
theorem d12_34 : decode method_3_code 34 = .ok (.iand, 1) := by decide +kernel
theorem d12_35 : decode method_3_code 35 = .ok (.ifCond .eq 10, 3) := by decide +kernel
theorem d12_45 : decode method_3_code 45 = .ok (.iload_n 1, 1) := by decide +kernel
theorem d12_46 : decode method_3_code 46 = .ok (.bipush 8, 2) := by decide +kernel
theorem d12_48 : decode method_3_code 48 = .ok (.iand, 1) := by decide +kernel
theorem d12_49 : decode method_3_code 49 = .ok (.ifCond .eq 10, 3) := by decide +kernel
theorem d12_59 : decode method_3_code 59 = .ok (.aload_n 0, 1) := by decide +kernel
theorem d12_60 : decode method_3_code 60 = .ok (.arraylength, 1) := by decide +kernel
theorem d12_61 : decode method_3_code 61 = .ok (.iload_n 3, 1) := by decide +kernel
theorem d12_62 : decode method_3_code 62 = .ok (.if_icmp .eq 5, 3) := by decide +kernel
theorem d12_67 : decode method_3_code 67 = .ok (.iload_n 3, 1) := by decide +kernel
theorem d12_68 : decode method_3_code 68 = .ok (.ifCond .le 14, 3) := by decide +kernel
theorem d12_82 : decode method_3_code 82 = .ok (.iload_n 3, 1) := by decide +kernel
theorem d12_83 : decode method_3_code 83 = .ok (.iconst 1, 1) := by decide +kernel
theorem d12_84 : decode method_3_code 84 = .ok (.if_icmp .le 14, 3) := by decide +kernel
theorem d12_98 : decode method_3_code 98 = .ok (.iload_n 3, 1) := by decide +kernel
theorem d12_99 : decode method_3_code 99 = .ok (.iconst 2, 1) := by decide +kernel
theorem d12_100 : decode method_3_code 100 = .ok (.if_icmp .le 14, 3) := by decide +kernel
theorem d12_114 : decode method_3_code 114 = .ok (.iload_n 3, 1) := by decide +kernel
theorem d12_115 : decode method_3_code 115 = .ok (.iconst 3, 1) := by decide +kernel
theorem d12_116 : decode method_3_code 116 = .ok (.if_icmp .le 14, 3) := by decide +kernel
theorem d12_130 : decode method_3_code 130 = .ok (.iconst 1, 1) := by decide +kernel
theorem d12_131 : decode method_3_code 131 = .ok (.ireturn, 1) := by decide +kernel
theorem d12_52 : decode method_3_code 52 = .ok (.aload_n 2, 1) := by decide +kernel
theorem d12_53 : decode method_3_code 53 = .ok (.iload_n 3, 1) := by decide +kernel
theorem d12_54 : decode method_3_code 54 = .ok (.iconst 3, 1) := by decide +kernel
theorem d12_55 : decode method_3_code 55 = .ok (.iastore, 1) := by decide +kernel
theorem d12_56 : decode method_3_code 56 = .ok (.iinc 3 1, 3) := by decide +kernel
theorem d12_71 : decode method_3_code 71 = .ok (.aload_n 0, 1) := by decide +kernel
theorem d12_72 : decode method_3_code 72 = .ok (.iconst 0, 1) := by decide +kernel
theorem d12_73 : decode method_3_code 73 = .ok (.iaload, 1) := by decide +kernel
theorem d12_74 : decode method_3_code 74 = .ok (.aload_n 2, 1) := by decide +kernel
theorem d12_75 : decode method_3_code 75 = .ok (.iconst 0, 1) := by decide +kernel
theorem d12_76 : decode method_3_code 76 = .ok (.iaload, 1) := by decide +kernel
theorem d12_77 : decode method_3_code 77 = .ok (.if_icmp .eq 5, 3) := by decide +kernel
theorem d12_38 : decode method_3_code 38 = .ok (.aload_n 2, 1) := by decide +kernel
theorem d12_39 : decode method_3_code 39 = .ok (.iload_n 3, 1) := by decide +kernel
theorem d12_40 : decode method_3_code 40 = .ok (.iconst 2, 1) := by decide +kernel
theorem d12_41 : decode method_3_code 41 = .ok (.iastore, 1) := by decide +kernel
theorem d12_42 : decode method_3_code 42 = .ok (.iinc 3 1, 3) := by decide +kernel
theorem d12_87 : decode method_3_code 87 = .ok (.aload_n 0, 1) := by decide +kernel
theorem d12_88 : decode method_3_code 88 = .ok (.iconst 1, 1) := by decide +kernel
theorem d12_89 : decode method_3_code 89 = .ok (.iaload, 1) := by decide +kernel
theorem d12_90 : decode method_3_code 90 = .ok (.aload_n 2, 1) := by decide +kernel
theorem d12_91 : decode method_3_code 91 = .ok (.iconst 1, 1) := by decide +kernel
theorem d12_92 : decode method_3_code 92 = .ok (.iaload, 1) := by decide +kernel
theorem d12_93 : decode method_3_code 93 = .ok (.if_icmp .eq 5, 3) := by decide +kernel
theorem d12_25 : decode method_3_code 25 = .ok (.aload_n 2, 1) := by decide +kernel
theorem d12_26 : decode method_3_code 26 = .ok (.iload_n 3, 1) := by decide +kernel
theorem d12_27 : decode method_3_code 27 = .ok (.iconst 1, 1) := by decide +kernel
theorem d12_28 : decode method_3_code 28 = .ok (.iastore, 1) := by decide +kernel
theorem d12_29 : decode method_3_code 29 = .ok (.iinc 3 1, 3) := by decide +kernel
theorem d12_103 : decode method_3_code 103 = .ok (.aload_n 0, 1) := by decide +kernel
theorem d12_104 : decode method_3_code 104 = .ok (.iconst 2, 1) := by decide +kernel
theorem d12_105 : decode method_3_code 105 = .ok (.iaload, 1) := by decide +kernel
theorem d12_106 : decode method_3_code 106 = .ok (.aload_n 2, 1) := by decide +kernel
theorem d12_107 : decode method_3_code 107 = .ok (.iconst 2, 1) := by decide +kernel
theorem d12_108 : decode method_3_code 108 = .ok (.iaload, 1) := by decide +kernel
theorem d12_109 : decode method_3_code 109 = .ok (.if_icmp .eq 5, 3) := by decide +kernel
theorem d12_12 : decode method_3_code 12 = .ok (.aload_n 2, 1) := by decide +kernel
theorem d12_13 : decode method_3_code 13 = .ok (.iload_n 3, 1) := by decide +kernel
theorem d12_14 : decode method_3_code 14 = .ok (.iconst 0, 1) := by decide +kernel
theorem d12_15 : decode method_3_code 15 = .ok (.iastore, 1) := by decide +kernel
theorem d12_16 : decode method_3_code 16 = .ok (.iinc 3 1, 3) := by decide +kernel
theorem d12_119 : decode method_3_code 119 = .ok (.aload_n 0, 1) := by decide +kernel
theorem d12_120 : decode method_3_code 120 = .ok (.iconst 3, 1) := by decide +kernel
theorem d12_121 : decode method_3_code 121 = .ok (.iaload, 1) := by decide +kernel
theorem d12_122 : decode method_3_code 122 = .ok (.aload_n 2, 1) := by decide +kernel
theorem d12_123 : decode method_3_code 123 = .ok (.iconst 3, 1) := by decide +kernel
theorem d12_124 : decode method_3_code 124 = .ok (.iaload, 1) := by decide +kernel
theorem d12_125 : decode method_3_code 125 = .ok (.if_icmp .eq 5, 3) := by decide +kernel
theorem own_pn_com_example_linkwright_linkwright_link_FoundTargetsAddPinLaw : plainName "com/example/linkwright/linkwright/link/FoundTargetsAddPinLaw" = true := by first | (simp [plainName, overriddenIn]; done) | decide +kernel
theorem ef_12 (m : MethodId) (x0 : Addr) (x1 : Int32) : entryFrame m #[(.ref x0), (.int x1)] 4 = mkF m 0 #[.val (.ref x0), .val (.int x1), .unset, .unset] [] := by first | (simp [entryFrame, mkF, argsToLocals, Value.category]; done) | rfl
def Q12 (Z : State) (a1 : Addr) (p2 : Int32) (kb : ClassId) (z : Int32) (ys : List Int32) (h0 : Heap) (n0 : Nat) (v : Option Value) (h : Heap) (L : List Loc) : Prop := v = some (.int (1 : Int32)) ∧ Fr n0 L ∧ Keep h0 h []
set_option maxRecDepth 65536 in
set_option maxHeartbeats 40000000 in
theorem rm12 (l : Launch) (Z : State) (a0 : Array Value) (hw : ∀ d ∈ tables_1, d.before a0 Z = true) (ws : List Jvm.Cond) (a1 : Addr) (p2 : Int32) (kb : ClassId) (z : Int32) (ys : List Int32) (h0 : Heap) (n0 : Nat) (Z0 : n0 ≤ h0.size) (V_a : Arv Z h0 a1 kb .int z (ys.map Value.int) (.int (0 : Int32))) (hz : z = Int32.ofNat ys.length) (hys : ys = own_bs p2) :
    MetFree l (⟨"com/example/linkwright/linkwright/link/FoundTargetsAddPinLaw", "same", "([II)Z"⟩ : MethodName) (head1 (Jvm.Cond.code (⟨"com/example/linkwright/linkwright/link/FoundTargetsAddPinLaw", "same", "([II)Z"⟩ : MethodName) method_3_code 4 (some .boolean) :: ws) ({ frames := 0, cells := 1, slots := 4, locals := 0 } : Room)) (fun aax UU => aax = #[(.ref a1), (.int p2)] ∧ Z.Warmed39 UU.vm ∧ UU.heap = h0) (fun _ _ _ _ _ => True) (fun _ UU oux UU' => ∃ rvx Lrx, oux = .returned rvx ∧ Q12 Z a1 p2 kb z ys h0 n0 rvx UU'.heap Lrx ∧ FrameEnd UU oux UU' Lrx ({ frames := 0, cells := 1, slots := 4, locals := 0 } : Room).cells ({ frames := 0, cells := 1, slots := 4, locals := 0 } : Room).slots) := by
  refine MetFree.of_bodySF (plainFor_of_name own_pn_com_example_linkwright_linkwright_link_FoundTargetsAddPinLaw) hisR ?_
  intro p e s m args below meth c s₁ Bd hml0 hP hK
  obtain ⟨rfl, hZ, hh⟩ := hP
  have hx := Bd.exec
  have hby := Bd.bytes
  have hml : c.maxLocals = 4 := hml0
  have hown : s.vm.findClass "com/example/linkwright/linkwright/link/FoundTargetsAddPinLaw" = some m.cls := findClass_of_methodNamed Bd.named
  have hnm := (name_of_methodNamed Bd.named Bd.method).1
  have X0 : Stand p l e ({ frames := 0, cells := 1, slots := 4, locals := 0 } : Room) s m #[(.ref a1), (.int p2)] below meth c s₁ [] 0 0 := Stand.of_body Bd
  have e0 : s₁.heap = h0 := by rw [← hh, Bd.state]; rfl
  have N0 := Fr.nil n0
  have p0 : own_go p e below (s₁.setTop (entryFrame m #[(.ref a1), (.int p2)] 4)) (s₁.setTop (mkF m 0 #[.val (.ref a1), .val (.int p2), .unset, .unset] [])) := fun ttx ktx => castTop (ef_12 m a1 p2) ktx
  obtain ⟨T1, h1, k1, X1, e1, E1, A1, st1⟩ := newP X0 hx hZ (hw _ (List.mem_of_getElem? (i := 9) rfl)) e0 (g := (mkF m 1 #[.val (.ref a1), .val (.int p2), .unset, .unset] [(.int (4 : Int32))])) rfl (hb hby d12_1) rfl (by decide) (cap := 4) (by decide) (by decide) (by decide) (by decide)
  obtain ⟨b1, g1⟩ : ∃ z, z = h0.size := ⟨_, rfl⟩
  rw [← g1] at A1 st1
  have ne2 : a1 ≠ b1 := Nat.ne_of_lt (Nat.lt_of_lt_of_le V_a.lt (Nat.le_of_eq g1.symm))
  have g_b1 : n0 ≤ b1 := Nat.le_trans Z0 (Nat.le_of_eq g1.symm)
  have sz_b1 : h0.size ≤ b1 := Nat.le_trans (Keep.refl h0 []).1 (Nat.le_of_eq g1.symm)
  have Z1 : n0 ≤ h1.size := Nat.le_trans Z0 E1.1
  have K1 : Keep h0 h1 [] := (Keep.refl h0 []).ext E1
  have V1 : Arv Z h1 b1 k1 .int (4 : Int32) [(.int (0 : Int32)), (.int (0 : Int32)), (.int (0 : Int32)), (.int (0 : Int32))] (.int (0 : Int32)) := (Arv.new A1 (by decide)).pad (pad_rep [] (.int (0 : Int32)) 4)
  have go3 : own_go p e below (s₁.setTop (entryFrame m #[(.ref a1), (.int p2)] 4)) (T1.setTop (mkF m 9 #[.val (.ref a1), .val (.int p2), .val (.ref b1), .val (.int (0 : Int32))] [(.int (p2 &&& (1 : Int32)))])) := by
    intro ttx ktx
    refine p0 ttx ?_
    show Steps p.tables e below (s₁.setTop (mkF m 0 #[.val (.ref a1), .val (.int p2), .unset, .unset] [])) _
    refine XS.iconst X0.here hx rfl (hb hby d12_0) ?_
    show Steps p.tables e below (s₁.setTop (mkF m 1 #[.val (.ref a1), .val (.int p2), .unset, .unset] [(.int (4 : Int32))])) _
    refine st1 _ ?_
    show Steps p.tables e below (T1.setTop (mkF m 3 #[.val (.ref a1), .val (.int p2), .unset, .unset] [(.ref b1)])) _
    refine XS.astoreN X1.here hx rfl (hb hby d12_3) rfl rfl (l' := #[.val (.ref a1), .val (.int p2), .val (.ref b1), .unset]) rfl ?_
    show Steps p.tables e below (T1.setTop (mkF m 4 #[.val (.ref a1), .val (.int p2), .val (.ref b1), .unset] [])) _
    refine XS.iconst X1.here hx rfl (hb hby d12_4) ?_
    show Steps p.tables e below (T1.setTop (mkF m 5 #[.val (.ref a1), .val (.int p2), .val (.ref b1), .unset] [(.int (0 : Int32))])) _
    refine XS.istoreN X1.here hx rfl (hb hby d12_5) rfl (l' := #[.val (.ref a1), .val (.int p2), .val (.ref b1), .val (.int (0 : Int32))]) rfl ?_
    show Steps p.tables e below (T1.setTop (mkF m 6 #[.val (.ref a1), .val (.int p2), .val (.ref b1), .val (.int (0 : Int32))] [])) _
    refine XS.iloadN X1.here hx rfl (hb hby d12_6) rfl ?_
    show Steps p.tables e below (T1.setTop (mkF m 7 #[.val (.ref a1), .val (.int p2), .val (.ref b1), .val (.int (0 : Int32))] [(.int p2)])) _
    refine XS.iconst X1.here hx rfl (hb hby d12_7) ?_
    show Steps p.tables e below (T1.setTop (mkF m 8 #[.val (.ref a1), .val (.int p2), .val (.ref b1), .val (.int (0 : Int32))] [(.int (1 : Int32)), (.int p2)])) _
    refine XS.iand X1.here hx rfl (hb hby d12_8) rfl ?_
    exact ktx
  by_cases hc4_9 : (p2 &&& (1 : Int32)) = (0 : Int32)
  · have go5 : own_go p e below (s₁.setTop (entryFrame m #[(.ref a1), (.int p2)] 4)) (T1.setTop (mkF m 22 #[.val (.ref a1), .val (.int p2), .val (.ref b1), .val (.int (0 : Int32))] [(.int (p2 &&& (2 : Int32)))])) := by
      intro ttx ktx
      refine go3 ttx ?_
      show Steps p.tables e below (T1.setTop (mkF m 9 #[.val (.ref a1), .val (.int p2), .val (.ref b1), .val (.int (0 : Int32))] [(.int (p2 &&& (1 : Int32)))])) _
      refine XS.ifYes X1.here hx rfl (pc0 := 9) (pc' := 19) rfl (hb hby d12_9) rfl ((if0 _ _).trans (teq hc4_9).1) (by decide) (by decide) ?_
      show Steps p.tables e below (T1.setTop (mkF m 19 #[.val (.ref a1), .val (.int p2), .val (.ref b1), .val (.int (0 : Int32))] [])) _
      refine XS.iloadN X1.here hx rfl (hb hby d12_19) rfl ?_
      show Steps p.tables e below (T1.setTop (mkF m 20 #[.val (.ref a1), .val (.int p2), .val (.ref b1), .val (.int (0 : Int32))] [(.int p2)])) _
      refine XS.iconst X1.here hx rfl (hb hby d12_20) ?_
      show Steps p.tables e below (T1.setTop (mkF m 21 #[.val (.ref a1), .val (.int p2), .val (.ref b1), .val (.int (0 : Int32))] [(.int (2 : Int32)), (.int p2)])) _
      refine XS.iand X1.here hx rfl (hb hby d12_21) rfl ?_
      exact ktx
    by_cases hc6_22 : (p2 &&& (2 : Int32)) = (0 : Int32)
    · have go7 : own_go p e below (s₁.setTop (entryFrame m #[(.ref a1), (.int p2)] 4)) (T1.setTop (mkF m 35 #[.val (.ref a1), .val (.int p2), .val (.ref b1), .val (.int (0 : Int32))] [(.int (p2 &&& (4 : Int32)))])) := by
        intro ttx ktx
        refine go5 ttx ?_
        show Steps p.tables e below (T1.setTop (mkF m 22 #[.val (.ref a1), .val (.int p2), .val (.ref b1), .val (.int (0 : Int32))] [(.int (p2 &&& (2 : Int32)))])) _
        refine XS.ifYes X1.here hx rfl (pc0 := 22) (pc' := 32) rfl (hb hby d12_22) rfl ((if0 _ _).trans (teq hc6_22).1) (by decide) (by decide) ?_
        show Steps p.tables e below (T1.setTop (mkF m 32 #[.val (.ref a1), .val (.int p2), .val (.ref b1), .val (.int (0 : Int32))] [])) _
        refine XS.iloadN X1.here hx rfl (hb hby d12_32) rfl ?_
        show Steps p.tables e below (T1.setTop (mkF m 33 #[.val (.ref a1), .val (.int p2), .val (.ref b1), .val (.int (0 : Int32))] [(.int p2)])) _
        refine XS.iconst X1.here hx rfl (hb hby d12_33) ?_
        show Steps p.tables e below (T1.setTop (mkF m 34 #[.val (.ref a1), .val (.int p2), .val (.ref b1), .val (.int (0 : Int32))] [(.int (4 : Int32)), (.int p2)])) _
        refine XS.iand X1.here hx rfl (hb hby d12_34) rfl ?_
        exact ktx
      by_cases hc8_35 : (p2 &&& (4 : Int32)) = (0 : Int32)
      · have go9 : own_go p e below (s₁.setTop (entryFrame m #[(.ref a1), (.int p2)] 4)) (T1.setTop (mkF m 49 #[.val (.ref a1), .val (.int p2), .val (.ref b1), .val (.int (0 : Int32))] [(.int (p2 &&& (8 : Int32)))])) := by
          intro ttx ktx
          refine go7 ttx ?_
          show Steps p.tables e below (T1.setTop (mkF m 35 #[.val (.ref a1), .val (.int p2), .val (.ref b1), .val (.int (0 : Int32))] [(.int (p2 &&& (4 : Int32)))])) _
          refine XS.ifYes X1.here hx rfl (pc0 := 35) (pc' := 45) rfl (hb hby d12_35) rfl ((if0 _ _).trans (teq hc8_35).1) (by decide) (by decide) ?_
          show Steps p.tables e below (T1.setTop (mkF m 45 #[.val (.ref a1), .val (.int p2), .val (.ref b1), .val (.int (0 : Int32))] [])) _
          refine XS.iloadN X1.here hx rfl (hb hby d12_45) rfl ?_
          show Steps p.tables e below (T1.setTop (mkF m 46 #[.val (.ref a1), .val (.int p2), .val (.ref b1), .val (.int (0 : Int32))] [(.int p2)])) _
          refine XS.bipush X1.here hx rfl (hb hby d12_46) ?_
          show Steps p.tables e below (T1.setTop (mkF m 48 #[.val (.ref a1), .val (.int p2), .val (.ref b1), .val (.int (0 : Int32))] [(.int (8 : Int32)), (.int p2)])) _
          refine XS.iand X1.here hx rfl (hb hby d12_48) rfl ?_
          exact ktx
        by_cases hc10_49 : (p2 &&& (8 : Int32)) = (0 : Int32)
        · have hy : ys = [] := by rw [hys]; simp [own_bs, hc4_9, hc6_22, hc8_35, hc10_49]
          have hzz : z = (0 : Int32) := by rw [hz, hy]; rfl
          have f11 := (V_a.ext E1)
          obtain ⟨cl12, Ar12, -, S12, M12, -, -⟩ := id f11
          have hc13_62 : z = (0 : Int32) := hzz
          have hc14_68 : ¬ ((0 : Int32) < (0 : Int32)) := (by decide)
          have hc15_84 : ¬ ((1 : Int32) < (0 : Int32)) := (by decide)
          have hc16_100 : ¬ ((2 : Int32) < (0 : Int32)) := (by decide)
          have go17 : own_go p e below (s₁.setTop (entryFrame m #[(.ref a1), (.int p2)] 4)) (T1.setTop (mkF m 115 #[.val (.ref a1), .val (.int p2), .val (.ref b1), .val (.int (0 : Int32))] [(.int (0 : Int32))])) := by
            intro ttx ktx
            refine go9 ttx ?_
            show Steps p.tables e below (T1.setTop (mkF m 49 #[.val (.ref a1), .val (.int p2), .val (.ref b1), .val (.int (0 : Int32))] [(.int (p2 &&& (8 : Int32)))])) _
            refine XS.ifYes X1.here hx rfl (pc0 := 49) (pc' := 59) rfl (hb hby d12_49) rfl ((if0 _ _).trans (teq hc10_49).1) (by decide) (by decide) ?_
            show Steps p.tables e below (T1.setTop (mkF m 59 #[.val (.ref a1), .val (.int p2), .val (.ref b1), .val (.int (0 : Int32))] [])) _
            refine XS.aloadN X1.here hx rfl (hb hby d12_59) rfl rfl ?_
            show Steps p.tables e below (T1.setTop (mkF m 60 #[.val (.ref a1), .val (.int p2), .val (.ref b1), .val (.int (0 : Int32))] [(.ref a1)])) _
            refine X1.arraylength hx (own_hp e1 Ar12.1) (State.isArrayOf_alike hZ.alike Ar12.2.1) (g := (mkF m 60 #[.val (.ref a1), .val (.int p2), .val (.ref b1), .val (.int (0 : Int32))] [(.ref a1)])) rfl rfl (hb hby d12_60) _ ?_
            rw [len_of S12 M12]
            show Steps p.tables e below (T1.setTop (mkF m 61 #[.val (.ref a1), .val (.int p2), .val (.ref b1), .val (.int (0 : Int32))] [(.int z)])) _
            refine XS.iloadN X1.here hx rfl (hb hby d12_61) rfl ?_
            show Steps p.tables e below (T1.setTop (mkF m 62 #[.val (.ref a1), .val (.int p2), .val (.ref b1), .val (.int (0 : Int32))] [(.int (0 : Int32)), (.int z)])) _
            refine XS.icmpYes X1.here hx rfl (pc0 := 62) (pc' := 67) rfl (hb hby d12_62) rfl (teq hc13_62).1 (by decide) (by decide) ?_
            show Steps p.tables e below (T1.setTop (mkF m 67 #[.val (.ref a1), .val (.int p2), .val (.ref b1), .val (.int (0 : Int32))] [])) _
            refine XS.iloadN X1.here hx rfl (hb hby d12_67) rfl ?_
            show Steps p.tables e below (T1.setTop (mkF m 68 #[.val (.ref a1), .val (.int p2), .val (.ref b1), .val (.int (0 : Int32))] [(.int (0 : Int32))])) _
            refine XS.ifYes X1.here hx rfl (pc0 := 68) (pc' := 82) rfl (hb hby d12_68) rfl ((if0 _ _).trans (flt hc14_68).2.2.2) (by decide) (by decide) ?_
            show Steps p.tables e below (T1.setTop (mkF m 82 #[.val (.ref a1), .val (.int p2), .val (.ref b1), .val (.int (0 : Int32))] [])) _
            refine XS.iloadN X1.here hx rfl (hb hby d12_82) rfl ?_
            show Steps p.tables e below (T1.setTop (mkF m 83 #[.val (.ref a1), .val (.int p2), .val (.ref b1), .val (.int (0 : Int32))] [(.int (0 : Int32))])) _
            refine XS.iconst X1.here hx rfl (hb hby d12_83) ?_
            show Steps p.tables e below (T1.setTop (mkF m 84 #[.val (.ref a1), .val (.int p2), .val (.ref b1), .val (.int (0 : Int32))] [(.int (1 : Int32)), (.int (0 : Int32))])) _
            refine XS.icmpYes X1.here hx rfl (pc0 := 84) (pc' := 98) rfl (hb hby d12_84) rfl (flt hc15_84).2.2.2 (by decide) (by decide) ?_
            show Steps p.tables e below (T1.setTop (mkF m 98 #[.val (.ref a1), .val (.int p2), .val (.ref b1), .val (.int (0 : Int32))] [])) _
            refine XS.iloadN X1.here hx rfl (hb hby d12_98) rfl ?_
            show Steps p.tables e below (T1.setTop (mkF m 99 #[.val (.ref a1), .val (.int p2), .val (.ref b1), .val (.int (0 : Int32))] [(.int (0 : Int32))])) _
            refine XS.iconst X1.here hx rfl (hb hby d12_99) ?_
            show Steps p.tables e below (T1.setTop (mkF m 100 #[.val (.ref a1), .val (.int p2), .val (.ref b1), .val (.int (0 : Int32))] [(.int (2 : Int32)), (.int (0 : Int32))])) _
            refine XS.icmpYes X1.here hx rfl (pc0 := 100) (pc' := 114) rfl (hb hby d12_100) rfl (flt hc16_100).2.2.2 (by decide) (by decide) ?_
            show Steps p.tables e below (T1.setTop (mkF m 114 #[.val (.ref a1), .val (.int p2), .val (.ref b1), .val (.int (0 : Int32))] [])) _
            refine XS.iloadN X1.here hx rfl (hb hby d12_114) rfl ?_
            exact ktx
          have hc18_116 : ¬ ((3 : Int32) < (0 : Int32)) := (by decide)
          have go19 : own_go p e below (s₁.setTop (entryFrame m #[(.ref a1), (.int p2)] 4)) (T1.setTop (mkF m 131 #[.val (.ref a1), .val (.int p2), .val (.ref b1), .val (.int (0 : Int32))] [(.int (1 : Int32))])) := by
            intro ttx ktx
            refine go17 ttx ?_
            show Steps p.tables e below (T1.setTop (mkF m 115 #[.val (.ref a1), .val (.int p2), .val (.ref b1), .val (.int (0 : Int32))] [(.int (0 : Int32))])) _
            refine XS.iconst X1.here hx rfl (hb hby d12_115) ?_
            show Steps p.tables e below (T1.setTop (mkF m 116 #[.val (.ref a1), .val (.int p2), .val (.ref b1), .val (.int (0 : Int32))] [(.int (3 : Int32)), (.int (0 : Int32))])) _
            refine XS.icmpYes X1.here hx rfl (pc0 := 116) (pc' := 130) rfl (hb hby d12_116) rfl (flt hc18_116).2.2.2 (by decide) (by decide) ?_
            show Steps p.tables e below (T1.setTop (mkF m 130 #[.val (.ref a1), .val (.int p2), .val (.ref b1), .val (.int (0 : Int32))] [])) _
            refine XS.iconst X1.here hx rfl (hb hby d12_130) ?_
            exact ktx
          obtain ⟨fs, hr, hrun, hended, hW, hsame⟩ := X1.leave (v := some (.int (1 : Int32))) (fun h => by rw [Bd.returns] at h; cases h)
          refine ⟨_, _, go19 _ ?_, hrun, hended, _, _, rfl, ?_, ⟨_, rfl⟩, hW, hsame.mono (by decide) (by decide)⟩
          · exact retN X1 hx (t := .boolean) Bd.returns (by simp) (hb hby d12_131) hr
          · show Q12 Z a1 p2 kb z ys h0 n0 _ T1.heap _
            rw [e1]
            exact ⟨rfl, N0, K1⟩
        · obtain ⟨cl20, Ar20, q20, S20, M20, H20, G20⟩ := id V1
          have hin20 : ¬ ((0 : Int32) < 0 ∨ cl20.slots.size ≤ ((0 : Int32)).toNatClampNeg) := inb_of S20 ⟨by decide, by decide⟩
          obtain ⟨T21, h21, X21, e21, W21, st21⟩ := stI X1 hx hZ e1 Ar20 (j := (0 : Int32)) hin20 (g := (mkF m 55 #[.val (.ref a1), .val (.int p2), .val (.ref b1), .val (.int (0 : Int32))] [(.int (3 : Int32)), (.int (0 : Int32)), (.ref b1)])) rfl rfl (hb hby d12_55)
          have Z21 : n0 ≤ h21.size := Nat.le_trans Z1 (Nat.le_of_eq W21.size.symm)
          have K21 : Keep h0 h21 [] := K1.wr W21 (Or.inr sz_b1)
          have N21 := Fr.snoc X21 N0 g_b1
          have V21 : Arv Z h21 b1 k1 .int (4 : Int32) [(.int (3 : Int32)), (.int (0 : Int32)), (.int (0 : Int32)), (.int (0 : Int32))] (.int (0 : Int32)) := Arv.set Ar20 q20 S20 M20 H20 G20 rfl W21 0 rfl (Nat.le_of_ble_eq_true rfl)
          have hy : ys = [(3 : Int32)] := by rw [hys]; simp [own_bs, hc4_9, hc6_22, hc8_35, hc10_49]
          have hzz : z = (1 : Int32) := by rw [hz, hy]; rfl
          have f22 := ((V_a.ext E1).other W21 ne2)
          obtain ⟨cl23, Ar23, -, S23, M23, -, -⟩ := id f22
          have hc24_62 : z = (1 : Int32) := hzz
          have hc25_68 : (0 : Int32) < (1 : Int32) := (by decide)
          have go26 : own_go p e below (s₁.setTop (entryFrame m #[(.ref a1), (.int p2)] 4)) (T21.setTop (mkF m 73 #[.val (.ref a1), .val (.int p2), .val (.ref b1), .val (.int (1 : Int32))] [(.int (0 : Int32)), (.ref a1)])) := by
            intro ttx ktx
            refine go9 ttx ?_
            show Steps p.tables e below (T1.setTop (mkF m 49 #[.val (.ref a1), .val (.int p2), .val (.ref b1), .val (.int (0 : Int32))] [(.int (p2 &&& (8 : Int32)))])) _
            refine XS.ifNo X1.here hx rfl (hb hby d12_49) rfl ((if0 _ _).trans (feq hc10_49).1) ?_
            show Steps p.tables e below (T1.setTop (mkF m 52 #[.val (.ref a1), .val (.int p2), .val (.ref b1), .val (.int (0 : Int32))] [])) _
            refine XS.aloadN X1.here hx rfl (hb hby d12_52) rfl rfl ?_
            show Steps p.tables e below (T1.setTop (mkF m 53 #[.val (.ref a1), .val (.int p2), .val (.ref b1), .val (.int (0 : Int32))] [(.ref b1)])) _
            refine XS.iloadN X1.here hx rfl (hb hby d12_53) rfl ?_
            show Steps p.tables e below (T1.setTop (mkF m 54 #[.val (.ref a1), .val (.int p2), .val (.ref b1), .val (.int (0 : Int32))] [(.int (0 : Int32)), (.ref b1)])) _
            refine XS.iconst X1.here hx rfl (hb hby d12_54) ?_
            show Steps p.tables e below (T1.setTop (mkF m 55 #[.val (.ref a1), .val (.int p2), .val (.ref b1), .val (.int (0 : Int32))] [(.int (3 : Int32)), (.int (0 : Int32)), (.ref b1)])) _
            refine st21 _ ?_
            show Steps p.tables e below (T21.setTop (mkF m 56 #[.val (.ref a1), .val (.int p2), .val (.ref b1), .val (.int (0 : Int32))] [])) _
            refine XS.iinc X21.here hx rfl (hb hby d12_56) rfl (l' := #[.val (.ref a1), .val (.int p2), .val (.ref b1), .val (.int (1 : Int32))]) rfl ?_
            show Steps p.tables e below (T21.setTop (mkF m 59 #[.val (.ref a1), .val (.int p2), .val (.ref b1), .val (.int (1 : Int32))] [])) _
            refine XS.aloadN X21.here hx rfl (hb hby d12_59) rfl rfl ?_
            show Steps p.tables e below (T21.setTop (mkF m 60 #[.val (.ref a1), .val (.int p2), .val (.ref b1), .val (.int (1 : Int32))] [(.ref a1)])) _
            refine X21.arraylength hx (own_hp e21 Ar23.1) (State.isArrayOf_alike hZ.alike Ar23.2.1) (g := (mkF m 60 #[.val (.ref a1), .val (.int p2), .val (.ref b1), .val (.int (1 : Int32))] [(.ref a1)])) rfl rfl (hb hby d12_60) _ ?_
            rw [len_of S23 M23]
            show Steps p.tables e below (T21.setTop (mkF m 61 #[.val (.ref a1), .val (.int p2), .val (.ref b1), .val (.int (1 : Int32))] [(.int z)])) _
            refine XS.iloadN X21.here hx rfl (hb hby d12_61) rfl ?_
            show Steps p.tables e below (T21.setTop (mkF m 62 #[.val (.ref a1), .val (.int p2), .val (.ref b1), .val (.int (1 : Int32))] [(.int (1 : Int32)), (.int z)])) _
            refine XS.icmpYes X21.here hx rfl (pc0 := 62) (pc' := 67) rfl (hb hby d12_62) rfl (teq hc24_62).1 (by decide) (by decide) ?_
            show Steps p.tables e below (T21.setTop (mkF m 67 #[.val (.ref a1), .val (.int p2), .val (.ref b1), .val (.int (1 : Int32))] [])) _
            refine XS.iloadN X21.here hx rfl (hb hby d12_67) rfl ?_
            show Steps p.tables e below (T21.setTop (mkF m 68 #[.val (.ref a1), .val (.int p2), .val (.ref b1), .val (.int (1 : Int32))] [(.int (1 : Int32))])) _
            refine XS.ifNo X21.here hx rfl (hb hby d12_68) rfl ((if0 _ _).trans (tlt hc25_68).2.2.2) ?_
            show Steps p.tables e below (T21.setTop (mkF m 71 #[.val (.ref a1), .val (.int p2), .val (.ref b1), .val (.int (1 : Int32))] [])) _
            refine XS.aloadN X21.here hx rfl (hb hby d12_71) rfl rfl ?_
            show Steps p.tables e below (T21.setTop (mkF m 72 #[.val (.ref a1), .val (.int p2), .val (.ref b1), .val (.int (1 : Int32))] [(.ref a1)])) _
            refine XS.iconst X21.here hx rfl (hb hby d12_72) ?_
            exact ktx
          obtain ⟨cl27, Ar27, q27, S27, M27, H27, G27⟩ := id f22
          have hin27 : ¬ ((0 : Int32) < 0 ∨ cl27.slots.size ≤ ((0 : Int32)).toNatClampNeg) := inb_of S27 ⟨by decide, by rw [hzz]; decide⟩
          have hat27 : cl27.slots[((0 : Int32)).toNatClampNeg]? = some (.int (3 : Int32)) := Has.at H27 hin27 (by rw [hy]; rfl)
          obtain ⟨cl28, Ar28, q28, S28, M28, H28, G28⟩ := id V21
          have hin28 : ¬ ((0 : Int32) < 0 ∨ cl28.slots.size ≤ ((0 : Int32)).toNatClampNeg) := inb_of S28 ⟨by decide, by decide⟩
          have hat28 : cl28.slots[((0 : Int32)).toNatClampNeg]? = some (.int (3 : Int32)) := Has.at H28 hin28 rfl
          have hc29_77 : (3 : Int32) = (3 : Int32) := (by decide)
          have hc30_84 : ¬ ((1 : Int32) < (1 : Int32)) := (by decide)
          have hc31_100 : ¬ ((2 : Int32) < (1 : Int32)) := (by decide)
          have hc32_116 : ¬ ((3 : Int32) < (1 : Int32)) := (by decide)
          have go33 : own_go p e below (s₁.setTop (entryFrame m #[(.ref a1), (.int p2)] 4)) (T21.setTop (mkF m 131 #[.val (.ref a1), .val (.int p2), .val (.ref b1), .val (.int (1 : Int32))] [(.int (1 : Int32))])) := by
            intro ttx ktx
            refine go26 ttx ?_
            show Steps p.tables e below (T21.setTop (mkF m 73 #[.val (.ref a1), .val (.int p2), .val (.ref b1), .val (.int (1 : Int32))] [(.int (0 : Int32)), (.ref a1)])) _
            refine X21.iaload hx (j := (0 : Int32)) (v := (.int (3 : Int32))) (own_hp e21 Ar27.1) (State.isArrayOf_alike hZ.alike Ar27.2.1) Ar27.2.2 hin27 hat27 (g := (mkF m 73 #[.val (.ref a1), .val (.int p2), .val (.ref b1), .val (.int (1 : Int32))] [(.int (0 : Int32)), (.ref a1)])) rfl rfl (hb hby d12_73) _ ?_
            show Steps p.tables e below (T21.setTop (mkF m 74 #[.val (.ref a1), .val (.int p2), .val (.ref b1), .val (.int (1 : Int32))] [(.int (3 : Int32))])) _
            refine XS.aloadN X21.here hx rfl (hb hby d12_74) rfl rfl ?_
            show Steps p.tables e below (T21.setTop (mkF m 75 #[.val (.ref a1), .val (.int p2), .val (.ref b1), .val (.int (1 : Int32))] [(.ref b1), (.int (3 : Int32))])) _
            refine XS.iconst X21.here hx rfl (hb hby d12_75) ?_
            show Steps p.tables e below (T21.setTop (mkF m 76 #[.val (.ref a1), .val (.int p2), .val (.ref b1), .val (.int (1 : Int32))] [(.int (0 : Int32)), (.ref b1), (.int (3 : Int32))])) _
            refine X21.iaload hx (j := (0 : Int32)) (v := (.int (3 : Int32))) (own_hp e21 Ar28.1) (State.isArrayOf_alike hZ.alike Ar28.2.1) Ar28.2.2 hin28 hat28 (g := (mkF m 76 #[.val (.ref a1), .val (.int p2), .val (.ref b1), .val (.int (1 : Int32))] [(.int (0 : Int32)), (.ref b1), (.int (3 : Int32))])) rfl rfl (hb hby d12_76) _ ?_
            show Steps p.tables e below (T21.setTop (mkF m 77 #[.val (.ref a1), .val (.int p2), .val (.ref b1), .val (.int (1 : Int32))] [(.int (3 : Int32)), (.int (3 : Int32))])) _
            refine XS.icmpYes X21.here hx rfl (pc0 := 77) (pc' := 82) rfl (hb hby d12_77) rfl (teq hc29_77).1 (by decide) (by decide) ?_
            show Steps p.tables e below (T21.setTop (mkF m 82 #[.val (.ref a1), .val (.int p2), .val (.ref b1), .val (.int (1 : Int32))] [])) _
            refine XS.iloadN X21.here hx rfl (hb hby d12_82) rfl ?_
            show Steps p.tables e below (T21.setTop (mkF m 83 #[.val (.ref a1), .val (.int p2), .val (.ref b1), .val (.int (1 : Int32))] [(.int (1 : Int32))])) _
            refine XS.iconst X21.here hx rfl (hb hby d12_83) ?_
            show Steps p.tables e below (T21.setTop (mkF m 84 #[.val (.ref a1), .val (.int p2), .val (.ref b1), .val (.int (1 : Int32))] [(.int (1 : Int32)), (.int (1 : Int32))])) _
            refine XS.icmpYes X21.here hx rfl (pc0 := 84) (pc' := 98) rfl (hb hby d12_84) rfl (flt hc30_84).2.2.2 (by decide) (by decide) ?_
            show Steps p.tables e below (T21.setTop (mkF m 98 #[.val (.ref a1), .val (.int p2), .val (.ref b1), .val (.int (1 : Int32))] [])) _
            refine XS.iloadN X21.here hx rfl (hb hby d12_98) rfl ?_
            show Steps p.tables e below (T21.setTop (mkF m 99 #[.val (.ref a1), .val (.int p2), .val (.ref b1), .val (.int (1 : Int32))] [(.int (1 : Int32))])) _
            refine XS.iconst X21.here hx rfl (hb hby d12_99) ?_
            show Steps p.tables e below (T21.setTop (mkF m 100 #[.val (.ref a1), .val (.int p2), .val (.ref b1), .val (.int (1 : Int32))] [(.int (2 : Int32)), (.int (1 : Int32))])) _
            refine XS.icmpYes X21.here hx rfl (pc0 := 100) (pc' := 114) rfl (hb hby d12_100) rfl (flt hc31_100).2.2.2 (by decide) (by decide) ?_
            show Steps p.tables e below (T21.setTop (mkF m 114 #[.val (.ref a1), .val (.int p2), .val (.ref b1), .val (.int (1 : Int32))] [])) _
            refine XS.iloadN X21.here hx rfl (hb hby d12_114) rfl ?_
            show Steps p.tables e below (T21.setTop (mkF m 115 #[.val (.ref a1), .val (.int p2), .val (.ref b1), .val (.int (1 : Int32))] [(.int (1 : Int32))])) _
            refine XS.iconst X21.here hx rfl (hb hby d12_115) ?_
            show Steps p.tables e below (T21.setTop (mkF m 116 #[.val (.ref a1), .val (.int p2), .val (.ref b1), .val (.int (1 : Int32))] [(.int (3 : Int32)), (.int (1 : Int32))])) _
            refine XS.icmpYes X21.here hx rfl (pc0 := 116) (pc' := 130) rfl (hb hby d12_116) rfl (flt hc32_116).2.2.2 (by decide) (by decide) ?_
            show Steps p.tables e below (T21.setTop (mkF m 130 #[.val (.ref a1), .val (.int p2), .val (.ref b1), .val (.int (1 : Int32))] [])) _
            refine XS.iconst X21.here hx rfl (hb hby d12_130) ?_
            exact ktx
          obtain ⟨fs, hr, hrun, hended, hW, hsame⟩ := X21.leave (v := some (.int (1 : Int32))) (fun h => by rw [Bd.returns] at h; cases h)
          refine ⟨_, _, go33 _ ?_, hrun, hended, _, _, rfl, ?_, ⟨_, rfl⟩, hW, hsame.mono (by decide) (by decide)⟩
          · exact retN X21 hx (t := .boolean) Bd.returns (by simp) (hb hby d12_131) hr
          · show Q12 Z a1 p2 kb z ys h0 n0 _ T21.heap _
            rw [e21]
            exact ⟨rfl, N21, K21⟩
      · obtain ⟨cl34, Ar34, q34, S34, M34, H34, G34⟩ := id V1
        have hin34 : ¬ ((0 : Int32) < 0 ∨ cl34.slots.size ≤ ((0 : Int32)).toNatClampNeg) := inb_of S34 ⟨by decide, by decide⟩
        obtain ⟨T35, h35, X35, e35, W35, st35⟩ := stI X1 hx hZ e1 Ar34 (j := (0 : Int32)) hin34 (g := (mkF m 41 #[.val (.ref a1), .val (.int p2), .val (.ref b1), .val (.int (0 : Int32))] [(.int (2 : Int32)), (.int (0 : Int32)), (.ref b1)])) rfl rfl (hb hby d12_41)
        have Z35 : n0 ≤ h35.size := Nat.le_trans Z1 (Nat.le_of_eq W35.size.symm)
        have K35 : Keep h0 h35 [] := K1.wr W35 (Or.inr sz_b1)
        have N35 := Fr.snoc X35 N0 g_b1
        have V35 : Arv Z h35 b1 k1 .int (4 : Int32) [(.int (2 : Int32)), (.int (0 : Int32)), (.int (0 : Int32)), (.int (0 : Int32))] (.int (0 : Int32)) := Arv.set Ar34 q34 S34 M34 H34 G34 rfl W35 0 rfl (Nat.le_of_ble_eq_true rfl)
        have go36 : own_go p e below (s₁.setTop (entryFrame m #[(.ref a1), (.int p2)] 4)) (T35.setTop (mkF m 49 #[.val (.ref a1), .val (.int p2), .val (.ref b1), .val (.int (1 : Int32))] [(.int (p2 &&& (8 : Int32)))])) := by
          intro ttx ktx
          refine go7 ttx ?_
          show Steps p.tables e below (T1.setTop (mkF m 35 #[.val (.ref a1), .val (.int p2), .val (.ref b1), .val (.int (0 : Int32))] [(.int (p2 &&& (4 : Int32)))])) _
          refine XS.ifNo X1.here hx rfl (hb hby d12_35) rfl ((if0 _ _).trans (feq hc8_35).1) ?_
          show Steps p.tables e below (T1.setTop (mkF m 38 #[.val (.ref a1), .val (.int p2), .val (.ref b1), .val (.int (0 : Int32))] [])) _
          refine XS.aloadN X1.here hx rfl (hb hby d12_38) rfl rfl ?_
          show Steps p.tables e below (T1.setTop (mkF m 39 #[.val (.ref a1), .val (.int p2), .val (.ref b1), .val (.int (0 : Int32))] [(.ref b1)])) _
          refine XS.iloadN X1.here hx rfl (hb hby d12_39) rfl ?_
          show Steps p.tables e below (T1.setTop (mkF m 40 #[.val (.ref a1), .val (.int p2), .val (.ref b1), .val (.int (0 : Int32))] [(.int (0 : Int32)), (.ref b1)])) _
          refine XS.iconst X1.here hx rfl (hb hby d12_40) ?_
          show Steps p.tables e below (T1.setTop (mkF m 41 #[.val (.ref a1), .val (.int p2), .val (.ref b1), .val (.int (0 : Int32))] [(.int (2 : Int32)), (.int (0 : Int32)), (.ref b1)])) _
          refine st35 _ ?_
          show Steps p.tables e below (T35.setTop (mkF m 42 #[.val (.ref a1), .val (.int p2), .val (.ref b1), .val (.int (0 : Int32))] [])) _
          refine XS.iinc X35.here hx rfl (hb hby d12_42) rfl (l' := #[.val (.ref a1), .val (.int p2), .val (.ref b1), .val (.int (1 : Int32))]) rfl ?_
          show Steps p.tables e below (T35.setTop (mkF m 45 #[.val (.ref a1), .val (.int p2), .val (.ref b1), .val (.int (1 : Int32))] [])) _
          refine XS.iloadN X35.here hx rfl (hb hby d12_45) rfl ?_
          show Steps p.tables e below (T35.setTop (mkF m 46 #[.val (.ref a1), .val (.int p2), .val (.ref b1), .val (.int (1 : Int32))] [(.int p2)])) _
          refine XS.bipush X35.here hx rfl (hb hby d12_46) ?_
          show Steps p.tables e below (T35.setTop (mkF m 48 #[.val (.ref a1), .val (.int p2), .val (.ref b1), .val (.int (1 : Int32))] [(.int (8 : Int32)), (.int p2)])) _
          refine XS.iand X35.here hx rfl (hb hby d12_48) rfl ?_
          exact ktx
        by_cases hc37_49 : (p2 &&& (8 : Int32)) = (0 : Int32)
        · have hy : ys = [(2 : Int32)] := by rw [hys]; simp [own_bs, hc4_9, hc6_22, hc8_35, hc37_49]
          have hzz : z = (1 : Int32) := by rw [hz, hy]; rfl
          have f38 := ((V_a.ext E1).other W35 ne2)
          obtain ⟨cl39, Ar39, -, S39, M39, -, -⟩ := id f38
          have hc40_62 : z = (1 : Int32) := hzz
          have hc41_68 : (0 : Int32) < (1 : Int32) := (by decide)
          obtain ⟨cl42, Ar42, q42, S42, M42, H42, G42⟩ := id f38
          have hin42 : ¬ ((0 : Int32) < 0 ∨ cl42.slots.size ≤ ((0 : Int32)).toNatClampNeg) := inb_of S42 ⟨by decide, by rw [hzz]; decide⟩
          have hat42 : cl42.slots[((0 : Int32)).toNatClampNeg]? = some (.int (2 : Int32)) := Has.at H42 hin42 (by rw [hy]; rfl)
          obtain ⟨cl43, Ar43, q43, S43, M43, H43, G43⟩ := id V35
          have hin43 : ¬ ((0 : Int32) < 0 ∨ cl43.slots.size ≤ ((0 : Int32)).toNatClampNeg) := inb_of S43 ⟨by decide, by decide⟩
          have hat43 : cl43.slots[((0 : Int32)).toNatClampNeg]? = some (.int (2 : Int32)) := Has.at H43 hin43 rfl
          have hc44_77 : (2 : Int32) = (2 : Int32) := (by decide)
          have go45 : own_go p e below (s₁.setTop (entryFrame m #[(.ref a1), (.int p2)] 4)) (T35.setTop (mkF m 82 #[.val (.ref a1), .val (.int p2), .val (.ref b1), .val (.int (1 : Int32))] [])) := by
            intro ttx ktx
            refine go36 ttx ?_
            show Steps p.tables e below (T35.setTop (mkF m 49 #[.val (.ref a1), .val (.int p2), .val (.ref b1), .val (.int (1 : Int32))] [(.int (p2 &&& (8 : Int32)))])) _
            refine XS.ifYes X35.here hx rfl (pc0 := 49) (pc' := 59) rfl (hb hby d12_49) rfl ((if0 _ _).trans (teq hc37_49).1) (by decide) (by decide) ?_
            show Steps p.tables e below (T35.setTop (mkF m 59 #[.val (.ref a1), .val (.int p2), .val (.ref b1), .val (.int (1 : Int32))] [])) _
            refine XS.aloadN X35.here hx rfl (hb hby d12_59) rfl rfl ?_
            show Steps p.tables e below (T35.setTop (mkF m 60 #[.val (.ref a1), .val (.int p2), .val (.ref b1), .val (.int (1 : Int32))] [(.ref a1)])) _
            refine X35.arraylength hx (own_hp e35 Ar39.1) (State.isArrayOf_alike hZ.alike Ar39.2.1) (g := (mkF m 60 #[.val (.ref a1), .val (.int p2), .val (.ref b1), .val (.int (1 : Int32))] [(.ref a1)])) rfl rfl (hb hby d12_60) _ ?_
            rw [len_of S39 M39]
            show Steps p.tables e below (T35.setTop (mkF m 61 #[.val (.ref a1), .val (.int p2), .val (.ref b1), .val (.int (1 : Int32))] [(.int z)])) _
            refine XS.iloadN X35.here hx rfl (hb hby d12_61) rfl ?_
            show Steps p.tables e below (T35.setTop (mkF m 62 #[.val (.ref a1), .val (.int p2), .val (.ref b1), .val (.int (1 : Int32))] [(.int (1 : Int32)), (.int z)])) _
            refine XS.icmpYes X35.here hx rfl (pc0 := 62) (pc' := 67) rfl (hb hby d12_62) rfl (teq hc40_62).1 (by decide) (by decide) ?_
            show Steps p.tables e below (T35.setTop (mkF m 67 #[.val (.ref a1), .val (.int p2), .val (.ref b1), .val (.int (1 : Int32))] [])) _
            refine XS.iloadN X35.here hx rfl (hb hby d12_67) rfl ?_
            show Steps p.tables e below (T35.setTop (mkF m 68 #[.val (.ref a1), .val (.int p2), .val (.ref b1), .val (.int (1 : Int32))] [(.int (1 : Int32))])) _
            refine XS.ifNo X35.here hx rfl (hb hby d12_68) rfl ((if0 _ _).trans (tlt hc41_68).2.2.2) ?_
            show Steps p.tables e below (T35.setTop (mkF m 71 #[.val (.ref a1), .val (.int p2), .val (.ref b1), .val (.int (1 : Int32))] [])) _
            refine XS.aloadN X35.here hx rfl (hb hby d12_71) rfl rfl ?_
            show Steps p.tables e below (T35.setTop (mkF m 72 #[.val (.ref a1), .val (.int p2), .val (.ref b1), .val (.int (1 : Int32))] [(.ref a1)])) _
            refine XS.iconst X35.here hx rfl (hb hby d12_72) ?_
            show Steps p.tables e below (T35.setTop (mkF m 73 #[.val (.ref a1), .val (.int p2), .val (.ref b1), .val (.int (1 : Int32))] [(.int (0 : Int32)), (.ref a1)])) _
            refine X35.iaload hx (j := (0 : Int32)) (v := (.int (2 : Int32))) (own_hp e35 Ar42.1) (State.isArrayOf_alike hZ.alike Ar42.2.1) Ar42.2.2 hin42 hat42 (g := (mkF m 73 #[.val (.ref a1), .val (.int p2), .val (.ref b1), .val (.int (1 : Int32))] [(.int (0 : Int32)), (.ref a1)])) rfl rfl (hb hby d12_73) _ ?_
            show Steps p.tables e below (T35.setTop (mkF m 74 #[.val (.ref a1), .val (.int p2), .val (.ref b1), .val (.int (1 : Int32))] [(.int (2 : Int32))])) _
            refine XS.aloadN X35.here hx rfl (hb hby d12_74) rfl rfl ?_
            show Steps p.tables e below (T35.setTop (mkF m 75 #[.val (.ref a1), .val (.int p2), .val (.ref b1), .val (.int (1 : Int32))] [(.ref b1), (.int (2 : Int32))])) _
            refine XS.iconst X35.here hx rfl (hb hby d12_75) ?_
            show Steps p.tables e below (T35.setTop (mkF m 76 #[.val (.ref a1), .val (.int p2), .val (.ref b1), .val (.int (1 : Int32))] [(.int (0 : Int32)), (.ref b1), (.int (2 : Int32))])) _
            refine X35.iaload hx (j := (0 : Int32)) (v := (.int (2 : Int32))) (own_hp e35 Ar43.1) (State.isArrayOf_alike hZ.alike Ar43.2.1) Ar43.2.2 hin43 hat43 (g := (mkF m 76 #[.val (.ref a1), .val (.int p2), .val (.ref b1), .val (.int (1 : Int32))] [(.int (0 : Int32)), (.ref b1), (.int (2 : Int32))])) rfl rfl (hb hby d12_76) _ ?_
            show Steps p.tables e below (T35.setTop (mkF m 77 #[.val (.ref a1), .val (.int p2), .val (.ref b1), .val (.int (1 : Int32))] [(.int (2 : Int32)), (.int (2 : Int32))])) _
            refine XS.icmpYes X35.here hx rfl (pc0 := 77) (pc' := 82) rfl (hb hby d12_77) rfl (teq hc44_77).1 (by decide) (by decide) ?_
            exact ktx
          have hc46_84 : ¬ ((1 : Int32) < (1 : Int32)) := (by decide)
          have hc47_100 : ¬ ((2 : Int32) < (1 : Int32)) := (by decide)
          have hc48_116 : ¬ ((3 : Int32) < (1 : Int32)) := (by decide)
          have go49 : own_go p e below (s₁.setTop (entryFrame m #[(.ref a1), (.int p2)] 4)) (T35.setTop (mkF m 131 #[.val (.ref a1), .val (.int p2), .val (.ref b1), .val (.int (1 : Int32))] [(.int (1 : Int32))])) := by
            intro ttx ktx
            refine go45 ttx ?_
            show Steps p.tables e below (T35.setTop (mkF m 82 #[.val (.ref a1), .val (.int p2), .val (.ref b1), .val (.int (1 : Int32))] [])) _
            refine XS.iloadN X35.here hx rfl (hb hby d12_82) rfl ?_
            show Steps p.tables e below (T35.setTop (mkF m 83 #[.val (.ref a1), .val (.int p2), .val (.ref b1), .val (.int (1 : Int32))] [(.int (1 : Int32))])) _
            refine XS.iconst X35.here hx rfl (hb hby d12_83) ?_
            show Steps p.tables e below (T35.setTop (mkF m 84 #[.val (.ref a1), .val (.int p2), .val (.ref b1), .val (.int (1 : Int32))] [(.int (1 : Int32)), (.int (1 : Int32))])) _
            refine XS.icmpYes X35.here hx rfl (pc0 := 84) (pc' := 98) rfl (hb hby d12_84) rfl (flt hc46_84).2.2.2 (by decide) (by decide) ?_
            show Steps p.tables e below (T35.setTop (mkF m 98 #[.val (.ref a1), .val (.int p2), .val (.ref b1), .val (.int (1 : Int32))] [])) _
            refine XS.iloadN X35.here hx rfl (hb hby d12_98) rfl ?_
            show Steps p.tables e below (T35.setTop (mkF m 99 #[.val (.ref a1), .val (.int p2), .val (.ref b1), .val (.int (1 : Int32))] [(.int (1 : Int32))])) _
            refine XS.iconst X35.here hx rfl (hb hby d12_99) ?_
            show Steps p.tables e below (T35.setTop (mkF m 100 #[.val (.ref a1), .val (.int p2), .val (.ref b1), .val (.int (1 : Int32))] [(.int (2 : Int32)), (.int (1 : Int32))])) _
            refine XS.icmpYes X35.here hx rfl (pc0 := 100) (pc' := 114) rfl (hb hby d12_100) rfl (flt hc47_100).2.2.2 (by decide) (by decide) ?_
            show Steps p.tables e below (T35.setTop (mkF m 114 #[.val (.ref a1), .val (.int p2), .val (.ref b1), .val (.int (1 : Int32))] [])) _
            refine XS.iloadN X35.here hx rfl (hb hby d12_114) rfl ?_
            show Steps p.tables e below (T35.setTop (mkF m 115 #[.val (.ref a1), .val (.int p2), .val (.ref b1), .val (.int (1 : Int32))] [(.int (1 : Int32))])) _
            refine XS.iconst X35.here hx rfl (hb hby d12_115) ?_
            show Steps p.tables e below (T35.setTop (mkF m 116 #[.val (.ref a1), .val (.int p2), .val (.ref b1), .val (.int (1 : Int32))] [(.int (3 : Int32)), (.int (1 : Int32))])) _
            refine XS.icmpYes X35.here hx rfl (pc0 := 116) (pc' := 130) rfl (hb hby d12_116) rfl (flt hc48_116).2.2.2 (by decide) (by decide) ?_
            show Steps p.tables e below (T35.setTop (mkF m 130 #[.val (.ref a1), .val (.int p2), .val (.ref b1), .val (.int (1 : Int32))] [])) _
            refine XS.iconst X35.here hx rfl (hb hby d12_130) ?_
            exact ktx
          obtain ⟨fs, hr, hrun, hended, hW, hsame⟩ := X35.leave (v := some (.int (1 : Int32))) (fun h => by rw [Bd.returns] at h; cases h)
          refine ⟨_, _, go49 _ ?_, hrun, hended, _, _, rfl, ?_, ⟨_, rfl⟩, hW, hsame.mono (by decide) (by decide)⟩
          · exact retN X35 hx (t := .boolean) Bd.returns (by simp) (hb hby d12_131) hr
          · show Q12 Z a1 p2 kb z ys h0 n0 _ T35.heap _
            rw [e35]
            exact ⟨rfl, N35, K35⟩
        · obtain ⟨cl50, Ar50, q50, S50, M50, H50, G50⟩ := id V35
          have hin50 : ¬ ((1 : Int32) < 0 ∨ cl50.slots.size ≤ ((1 : Int32)).toNatClampNeg) := inb_of S50 ⟨by decide, by decide⟩
          obtain ⟨T51, h51, X51, e51, W51, st51⟩ := stI X35 hx hZ e35 Ar50 (j := (1 : Int32)) hin50 (g := (mkF m 55 #[.val (.ref a1), .val (.int p2), .val (.ref b1), .val (.int (1 : Int32))] [(.int (3 : Int32)), (.int (1 : Int32)), (.ref b1)])) rfl rfl (hb hby d12_55)
          have Z51 : n0 ≤ h51.size := Nat.le_trans Z35 (Nat.le_of_eq W51.size.symm)
          have K51 : Keep h0 h51 [] := K35.wr W51 (Or.inr sz_b1)
          have N51 := Fr.snoc X51 N35 g_b1
          have V51 : Arv Z h51 b1 k1 .int (4 : Int32) [(.int (2 : Int32)), (.int (3 : Int32)), (.int (0 : Int32)), (.int (0 : Int32))] (.int (0 : Int32)) := Arv.set Ar50 q50 S50 M50 H50 G50 rfl W51 1 rfl (Nat.le_of_ble_eq_true rfl)
          have hy : ys = [(2 : Int32), (3 : Int32)] := by rw [hys]; simp [own_bs, hc4_9, hc6_22, hc8_35, hc37_49]
          have hzz : z = (2 : Int32) := by rw [hz, hy]; rfl
          have f52 := (((V_a.ext E1).other W35 ne2).other W51 ne2)
          obtain ⟨cl53, Ar53, -, S53, M53, -, -⟩ := id f52
          have hc54_62 : z = (2 : Int32) := hzz
          have hc55_68 : (0 : Int32) < (2 : Int32) := (by decide)
          have go56 : own_go p e below (s₁.setTop (entryFrame m #[(.ref a1), (.int p2)] 4)) (T51.setTop (mkF m 73 #[.val (.ref a1), .val (.int p2), .val (.ref b1), .val (.int (2 : Int32))] [(.int (0 : Int32)), (.ref a1)])) := by
            intro ttx ktx
            refine go36 ttx ?_
            show Steps p.tables e below (T35.setTop (mkF m 49 #[.val (.ref a1), .val (.int p2), .val (.ref b1), .val (.int (1 : Int32))] [(.int (p2 &&& (8 : Int32)))])) _
            refine XS.ifNo X35.here hx rfl (hb hby d12_49) rfl ((if0 _ _).trans (feq hc37_49).1) ?_
            show Steps p.tables e below (T35.setTop (mkF m 52 #[.val (.ref a1), .val (.int p2), .val (.ref b1), .val (.int (1 : Int32))] [])) _
            refine XS.aloadN X35.here hx rfl (hb hby d12_52) rfl rfl ?_
            show Steps p.tables e below (T35.setTop (mkF m 53 #[.val (.ref a1), .val (.int p2), .val (.ref b1), .val (.int (1 : Int32))] [(.ref b1)])) _
            refine XS.iloadN X35.here hx rfl (hb hby d12_53) rfl ?_
            show Steps p.tables e below (T35.setTop (mkF m 54 #[.val (.ref a1), .val (.int p2), .val (.ref b1), .val (.int (1 : Int32))] [(.int (1 : Int32)), (.ref b1)])) _
            refine XS.iconst X35.here hx rfl (hb hby d12_54) ?_
            show Steps p.tables e below (T35.setTop (mkF m 55 #[.val (.ref a1), .val (.int p2), .val (.ref b1), .val (.int (1 : Int32))] [(.int (3 : Int32)), (.int (1 : Int32)), (.ref b1)])) _
            refine st51 _ ?_
            show Steps p.tables e below (T51.setTop (mkF m 56 #[.val (.ref a1), .val (.int p2), .val (.ref b1), .val (.int (1 : Int32))] [])) _
            refine XS.iinc X51.here hx rfl (hb hby d12_56) rfl (l' := #[.val (.ref a1), .val (.int p2), .val (.ref b1), .val (.int (2 : Int32))]) rfl ?_
            show Steps p.tables e below (T51.setTop (mkF m 59 #[.val (.ref a1), .val (.int p2), .val (.ref b1), .val (.int (2 : Int32))] [])) _
            refine XS.aloadN X51.here hx rfl (hb hby d12_59) rfl rfl ?_
            show Steps p.tables e below (T51.setTop (mkF m 60 #[.val (.ref a1), .val (.int p2), .val (.ref b1), .val (.int (2 : Int32))] [(.ref a1)])) _
            refine X51.arraylength hx (own_hp e51 Ar53.1) (State.isArrayOf_alike hZ.alike Ar53.2.1) (g := (mkF m 60 #[.val (.ref a1), .val (.int p2), .val (.ref b1), .val (.int (2 : Int32))] [(.ref a1)])) rfl rfl (hb hby d12_60) _ ?_
            rw [len_of S53 M53]
            show Steps p.tables e below (T51.setTop (mkF m 61 #[.val (.ref a1), .val (.int p2), .val (.ref b1), .val (.int (2 : Int32))] [(.int z)])) _
            refine XS.iloadN X51.here hx rfl (hb hby d12_61) rfl ?_
            show Steps p.tables e below (T51.setTop (mkF m 62 #[.val (.ref a1), .val (.int p2), .val (.ref b1), .val (.int (2 : Int32))] [(.int (2 : Int32)), (.int z)])) _
            refine XS.icmpYes X51.here hx rfl (pc0 := 62) (pc' := 67) rfl (hb hby d12_62) rfl (teq hc54_62).1 (by decide) (by decide) ?_
            show Steps p.tables e below (T51.setTop (mkF m 67 #[.val (.ref a1), .val (.int p2), .val (.ref b1), .val (.int (2 : Int32))] [])) _
            refine XS.iloadN X51.here hx rfl (hb hby d12_67) rfl ?_
            show Steps p.tables e below (T51.setTop (mkF m 68 #[.val (.ref a1), .val (.int p2), .val (.ref b1), .val (.int (2 : Int32))] [(.int (2 : Int32))])) _
            refine XS.ifNo X51.here hx rfl (hb hby d12_68) rfl ((if0 _ _).trans (tlt hc55_68).2.2.2) ?_
            show Steps p.tables e below (T51.setTop (mkF m 71 #[.val (.ref a1), .val (.int p2), .val (.ref b1), .val (.int (2 : Int32))] [])) _
            refine XS.aloadN X51.here hx rfl (hb hby d12_71) rfl rfl ?_
            show Steps p.tables e below (T51.setTop (mkF m 72 #[.val (.ref a1), .val (.int p2), .val (.ref b1), .val (.int (2 : Int32))] [(.ref a1)])) _
            refine XS.iconst X51.here hx rfl (hb hby d12_72) ?_
            exact ktx
          obtain ⟨cl57, Ar57, q57, S57, M57, H57, G57⟩ := id f52
          have hin57 : ¬ ((0 : Int32) < 0 ∨ cl57.slots.size ≤ ((0 : Int32)).toNatClampNeg) := inb_of S57 ⟨by decide, by rw [hzz]; decide⟩
          have hat57 : cl57.slots[((0 : Int32)).toNatClampNeg]? = some (.int (2 : Int32)) := Has.at H57 hin57 (by rw [hy]; rfl)
          obtain ⟨cl58, Ar58, q58, S58, M58, H58, G58⟩ := id V51
          have hin58 : ¬ ((0 : Int32) < 0 ∨ cl58.slots.size ≤ ((0 : Int32)).toNatClampNeg) := inb_of S58 ⟨by decide, by decide⟩
          have hat58 : cl58.slots[((0 : Int32)).toNatClampNeg]? = some (.int (2 : Int32)) := Has.at H58 hin58 rfl
          have hc59_77 : (2 : Int32) = (2 : Int32) := (by decide)
          have hc60_84 : (1 : Int32) < (2 : Int32) := (by decide)
          obtain ⟨cl61, Ar61, q61, S61, M61, H61, G61⟩ := id f52
          have hin61 : ¬ ((1 : Int32) < 0 ∨ cl61.slots.size ≤ ((1 : Int32)).toNatClampNeg) := inb_of S61 ⟨by decide, by rw [hzz]; decide⟩
          have hat61 : cl61.slots[((1 : Int32)).toNatClampNeg]? = some (.int (3 : Int32)) := Has.at H61 hin61 (by rw [hy]; rfl)
          obtain ⟨cl62, Ar62, q62, S62, M62, H62, G62⟩ := id V51
          have hin62 : ¬ ((1 : Int32) < 0 ∨ cl62.slots.size ≤ ((1 : Int32)).toNatClampNeg) := inb_of S62 ⟨by decide, by decide⟩
          have hat62 : cl62.slots[((1 : Int32)).toNatClampNeg]? = some (.int (3 : Int32)) := Has.at H62 hin62 rfl
          have hc63_93 : (3 : Int32) = (3 : Int32) := (by decide)
          have go64 : own_go p e below (s₁.setTop (entryFrame m #[(.ref a1), (.int p2)] 4)) (T51.setTop (mkF m 98 #[.val (.ref a1), .val (.int p2), .val (.ref b1), .val (.int (2 : Int32))] [])) := by
            intro ttx ktx
            refine go56 ttx ?_
            show Steps p.tables e below (T51.setTop (mkF m 73 #[.val (.ref a1), .val (.int p2), .val (.ref b1), .val (.int (2 : Int32))] [(.int (0 : Int32)), (.ref a1)])) _
            refine X51.iaload hx (j := (0 : Int32)) (v := (.int (2 : Int32))) (own_hp e51 Ar57.1) (State.isArrayOf_alike hZ.alike Ar57.2.1) Ar57.2.2 hin57 hat57 (g := (mkF m 73 #[.val (.ref a1), .val (.int p2), .val (.ref b1), .val (.int (2 : Int32))] [(.int (0 : Int32)), (.ref a1)])) rfl rfl (hb hby d12_73) _ ?_
            show Steps p.tables e below (T51.setTop (mkF m 74 #[.val (.ref a1), .val (.int p2), .val (.ref b1), .val (.int (2 : Int32))] [(.int (2 : Int32))])) _
            refine XS.aloadN X51.here hx rfl (hb hby d12_74) rfl rfl ?_
            show Steps p.tables e below (T51.setTop (mkF m 75 #[.val (.ref a1), .val (.int p2), .val (.ref b1), .val (.int (2 : Int32))] [(.ref b1), (.int (2 : Int32))])) _
            refine XS.iconst X51.here hx rfl (hb hby d12_75) ?_
            show Steps p.tables e below (T51.setTop (mkF m 76 #[.val (.ref a1), .val (.int p2), .val (.ref b1), .val (.int (2 : Int32))] [(.int (0 : Int32)), (.ref b1), (.int (2 : Int32))])) _
            refine X51.iaload hx (j := (0 : Int32)) (v := (.int (2 : Int32))) (own_hp e51 Ar58.1) (State.isArrayOf_alike hZ.alike Ar58.2.1) Ar58.2.2 hin58 hat58 (g := (mkF m 76 #[.val (.ref a1), .val (.int p2), .val (.ref b1), .val (.int (2 : Int32))] [(.int (0 : Int32)), (.ref b1), (.int (2 : Int32))])) rfl rfl (hb hby d12_76) _ ?_
            show Steps p.tables e below (T51.setTop (mkF m 77 #[.val (.ref a1), .val (.int p2), .val (.ref b1), .val (.int (2 : Int32))] [(.int (2 : Int32)), (.int (2 : Int32))])) _
            refine XS.icmpYes X51.here hx rfl (pc0 := 77) (pc' := 82) rfl (hb hby d12_77) rfl (teq hc59_77).1 (by decide) (by decide) ?_
            show Steps p.tables e below (T51.setTop (mkF m 82 #[.val (.ref a1), .val (.int p2), .val (.ref b1), .val (.int (2 : Int32))] [])) _
            refine XS.iloadN X51.here hx rfl (hb hby d12_82) rfl ?_
            show Steps p.tables e below (T51.setTop (mkF m 83 #[.val (.ref a1), .val (.int p2), .val (.ref b1), .val (.int (2 : Int32))] [(.int (2 : Int32))])) _
            refine XS.iconst X51.here hx rfl (hb hby d12_83) ?_
            show Steps p.tables e below (T51.setTop (mkF m 84 #[.val (.ref a1), .val (.int p2), .val (.ref b1), .val (.int (2 : Int32))] [(.int (1 : Int32)), (.int (2 : Int32))])) _
            refine XS.icmpNo X51.here hx rfl (hb hby d12_84) rfl (tlt hc60_84).2.2.2 ?_
            show Steps p.tables e below (T51.setTop (mkF m 87 #[.val (.ref a1), .val (.int p2), .val (.ref b1), .val (.int (2 : Int32))] [])) _
            refine XS.aloadN X51.here hx rfl (hb hby d12_87) rfl rfl ?_
            show Steps p.tables e below (T51.setTop (mkF m 88 #[.val (.ref a1), .val (.int p2), .val (.ref b1), .val (.int (2 : Int32))] [(.ref a1)])) _
            refine XS.iconst X51.here hx rfl (hb hby d12_88) ?_
            show Steps p.tables e below (T51.setTop (mkF m 89 #[.val (.ref a1), .val (.int p2), .val (.ref b1), .val (.int (2 : Int32))] [(.int (1 : Int32)), (.ref a1)])) _
            refine X51.iaload hx (j := (1 : Int32)) (v := (.int (3 : Int32))) (own_hp e51 Ar61.1) (State.isArrayOf_alike hZ.alike Ar61.2.1) Ar61.2.2 hin61 hat61 (g := (mkF m 89 #[.val (.ref a1), .val (.int p2), .val (.ref b1), .val (.int (2 : Int32))] [(.int (1 : Int32)), (.ref a1)])) rfl rfl (hb hby d12_89) _ ?_
            show Steps p.tables e below (T51.setTop (mkF m 90 #[.val (.ref a1), .val (.int p2), .val (.ref b1), .val (.int (2 : Int32))] [(.int (3 : Int32))])) _
            refine XS.aloadN X51.here hx rfl (hb hby d12_90) rfl rfl ?_
            show Steps p.tables e below (T51.setTop (mkF m 91 #[.val (.ref a1), .val (.int p2), .val (.ref b1), .val (.int (2 : Int32))] [(.ref b1), (.int (3 : Int32))])) _
            refine XS.iconst X51.here hx rfl (hb hby d12_91) ?_
            show Steps p.tables e below (T51.setTop (mkF m 92 #[.val (.ref a1), .val (.int p2), .val (.ref b1), .val (.int (2 : Int32))] [(.int (1 : Int32)), (.ref b1), (.int (3 : Int32))])) _
            refine X51.iaload hx (j := (1 : Int32)) (v := (.int (3 : Int32))) (own_hp e51 Ar62.1) (State.isArrayOf_alike hZ.alike Ar62.2.1) Ar62.2.2 hin62 hat62 (g := (mkF m 92 #[.val (.ref a1), .val (.int p2), .val (.ref b1), .val (.int (2 : Int32))] [(.int (1 : Int32)), (.ref b1), (.int (3 : Int32))])) rfl rfl (hb hby d12_92) _ ?_
            show Steps p.tables e below (T51.setTop (mkF m 93 #[.val (.ref a1), .val (.int p2), .val (.ref b1), .val (.int (2 : Int32))] [(.int (3 : Int32)), (.int (3 : Int32))])) _
            refine XS.icmpYes X51.here hx rfl (pc0 := 93) (pc' := 98) rfl (hb hby d12_93) rfl (teq hc63_93).1 (by decide) (by decide) ?_
            exact ktx
          have hc65_100 : ¬ ((2 : Int32) < (2 : Int32)) := (by decide)
          have hc66_116 : ¬ ((3 : Int32) < (2 : Int32)) := (by decide)
          have go67 : own_go p e below (s₁.setTop (entryFrame m #[(.ref a1), (.int p2)] 4)) (T51.setTop (mkF m 131 #[.val (.ref a1), .val (.int p2), .val (.ref b1), .val (.int (2 : Int32))] [(.int (1 : Int32))])) := by
            intro ttx ktx
            refine go64 ttx ?_
            show Steps p.tables e below (T51.setTop (mkF m 98 #[.val (.ref a1), .val (.int p2), .val (.ref b1), .val (.int (2 : Int32))] [])) _
            refine XS.iloadN X51.here hx rfl (hb hby d12_98) rfl ?_
            show Steps p.tables e below (T51.setTop (mkF m 99 #[.val (.ref a1), .val (.int p2), .val (.ref b1), .val (.int (2 : Int32))] [(.int (2 : Int32))])) _
            refine XS.iconst X51.here hx rfl (hb hby d12_99) ?_
            show Steps p.tables e below (T51.setTop (mkF m 100 #[.val (.ref a1), .val (.int p2), .val (.ref b1), .val (.int (2 : Int32))] [(.int (2 : Int32)), (.int (2 : Int32))])) _
            refine XS.icmpYes X51.here hx rfl (pc0 := 100) (pc' := 114) rfl (hb hby d12_100) rfl (flt hc65_100).2.2.2 (by decide) (by decide) ?_
            show Steps p.tables e below (T51.setTop (mkF m 114 #[.val (.ref a1), .val (.int p2), .val (.ref b1), .val (.int (2 : Int32))] [])) _
            refine XS.iloadN X51.here hx rfl (hb hby d12_114) rfl ?_
            show Steps p.tables e below (T51.setTop (mkF m 115 #[.val (.ref a1), .val (.int p2), .val (.ref b1), .val (.int (2 : Int32))] [(.int (2 : Int32))])) _
            refine XS.iconst X51.here hx rfl (hb hby d12_115) ?_
            show Steps p.tables e below (T51.setTop (mkF m 116 #[.val (.ref a1), .val (.int p2), .val (.ref b1), .val (.int (2 : Int32))] [(.int (3 : Int32)), (.int (2 : Int32))])) _
            refine XS.icmpYes X51.here hx rfl (pc0 := 116) (pc' := 130) rfl (hb hby d12_116) rfl (flt hc66_116).2.2.2 (by decide) (by decide) ?_
            show Steps p.tables e below (T51.setTop (mkF m 130 #[.val (.ref a1), .val (.int p2), .val (.ref b1), .val (.int (2 : Int32))] [])) _
            refine XS.iconst X51.here hx rfl (hb hby d12_130) ?_
            exact ktx
          obtain ⟨fs, hr, hrun, hended, hW, hsame⟩ := X51.leave (v := some (.int (1 : Int32))) (fun h => by rw [Bd.returns] at h; cases h)
          refine ⟨_, _, go67 _ ?_, hrun, hended, _, _, rfl, ?_, ⟨_, rfl⟩, hW, hsame.mono (by decide) (by decide)⟩
          · exact retN X51 hx (t := .boolean) Bd.returns (by simp) (hb hby d12_131) hr
          · show Q12 Z a1 p2 kb z ys h0 n0 _ T51.heap _
            rw [e51]
            exact ⟨rfl, N51, K51⟩
    · obtain ⟨cl68, Ar68, q68, S68, M68, H68, G68⟩ := id V1
      have hin68 : ¬ ((0 : Int32) < 0 ∨ cl68.slots.size ≤ ((0 : Int32)).toNatClampNeg) := inb_of S68 ⟨by decide, by decide⟩
      obtain ⟨T69, h69, X69, e69, W69, st69⟩ := stI X1 hx hZ e1 Ar68 (j := (0 : Int32)) hin68 (g := (mkF m 28 #[.val (.ref a1), .val (.int p2), .val (.ref b1), .val (.int (0 : Int32))] [(.int (1 : Int32)), (.int (0 : Int32)), (.ref b1)])) rfl rfl (hb hby d12_28)
      have Z69 : n0 ≤ h69.size := Nat.le_trans Z1 (Nat.le_of_eq W69.size.symm)
      have K69 : Keep h0 h69 [] := K1.wr W69 (Or.inr sz_b1)
      have N69 := Fr.snoc X69 N0 g_b1
      have V69 : Arv Z h69 b1 k1 .int (4 : Int32) [(.int (1 : Int32)), (.int (0 : Int32)), (.int (0 : Int32)), (.int (0 : Int32))] (.int (0 : Int32)) := Arv.set Ar68 q68 S68 M68 H68 G68 rfl W69 0 rfl (Nat.le_of_ble_eq_true rfl)
      have go70 : own_go p e below (s₁.setTop (entryFrame m #[(.ref a1), (.int p2)] 4)) (T69.setTop (mkF m 35 #[.val (.ref a1), .val (.int p2), .val (.ref b1), .val (.int (1 : Int32))] [(.int (p2 &&& (4 : Int32)))])) := by
        intro ttx ktx
        refine go5 ttx ?_
        show Steps p.tables e below (T1.setTop (mkF m 22 #[.val (.ref a1), .val (.int p2), .val (.ref b1), .val (.int (0 : Int32))] [(.int (p2 &&& (2 : Int32)))])) _
        refine XS.ifNo X1.here hx rfl (hb hby d12_22) rfl ((if0 _ _).trans (feq hc6_22).1) ?_
        show Steps p.tables e below (T1.setTop (mkF m 25 #[.val (.ref a1), .val (.int p2), .val (.ref b1), .val (.int (0 : Int32))] [])) _
        refine XS.aloadN X1.here hx rfl (hb hby d12_25) rfl rfl ?_
        show Steps p.tables e below (T1.setTop (mkF m 26 #[.val (.ref a1), .val (.int p2), .val (.ref b1), .val (.int (0 : Int32))] [(.ref b1)])) _
        refine XS.iloadN X1.here hx rfl (hb hby d12_26) rfl ?_
        show Steps p.tables e below (T1.setTop (mkF m 27 #[.val (.ref a1), .val (.int p2), .val (.ref b1), .val (.int (0 : Int32))] [(.int (0 : Int32)), (.ref b1)])) _
        refine XS.iconst X1.here hx rfl (hb hby d12_27) ?_
        show Steps p.tables e below (T1.setTop (mkF m 28 #[.val (.ref a1), .val (.int p2), .val (.ref b1), .val (.int (0 : Int32))] [(.int (1 : Int32)), (.int (0 : Int32)), (.ref b1)])) _
        refine st69 _ ?_
        show Steps p.tables e below (T69.setTop (mkF m 29 #[.val (.ref a1), .val (.int p2), .val (.ref b1), .val (.int (0 : Int32))] [])) _
        refine XS.iinc X69.here hx rfl (hb hby d12_29) rfl (l' := #[.val (.ref a1), .val (.int p2), .val (.ref b1), .val (.int (1 : Int32))]) rfl ?_
        show Steps p.tables e below (T69.setTop (mkF m 32 #[.val (.ref a1), .val (.int p2), .val (.ref b1), .val (.int (1 : Int32))] [])) _
        refine XS.iloadN X69.here hx rfl (hb hby d12_32) rfl ?_
        show Steps p.tables e below (T69.setTop (mkF m 33 #[.val (.ref a1), .val (.int p2), .val (.ref b1), .val (.int (1 : Int32))] [(.int p2)])) _
        refine XS.iconst X69.here hx rfl (hb hby d12_33) ?_
        show Steps p.tables e below (T69.setTop (mkF m 34 #[.val (.ref a1), .val (.int p2), .val (.ref b1), .val (.int (1 : Int32))] [(.int (4 : Int32)), (.int p2)])) _
        refine XS.iand X69.here hx rfl (hb hby d12_34) rfl ?_
        exact ktx
      by_cases hc71_35 : (p2 &&& (4 : Int32)) = (0 : Int32)
      · have go72 : own_go p e below (s₁.setTop (entryFrame m #[(.ref a1), (.int p2)] 4)) (T69.setTop (mkF m 49 #[.val (.ref a1), .val (.int p2), .val (.ref b1), .val (.int (1 : Int32))] [(.int (p2 &&& (8 : Int32)))])) := by
          intro ttx ktx
          refine go70 ttx ?_
          show Steps p.tables e below (T69.setTop (mkF m 35 #[.val (.ref a1), .val (.int p2), .val (.ref b1), .val (.int (1 : Int32))] [(.int (p2 &&& (4 : Int32)))])) _
          refine XS.ifYes X69.here hx rfl (pc0 := 35) (pc' := 45) rfl (hb hby d12_35) rfl ((if0 _ _).trans (teq hc71_35).1) (by decide) (by decide) ?_
          show Steps p.tables e below (T69.setTop (mkF m 45 #[.val (.ref a1), .val (.int p2), .val (.ref b1), .val (.int (1 : Int32))] [])) _
          refine XS.iloadN X69.here hx rfl (hb hby d12_45) rfl ?_
          show Steps p.tables e below (T69.setTop (mkF m 46 #[.val (.ref a1), .val (.int p2), .val (.ref b1), .val (.int (1 : Int32))] [(.int p2)])) _
          refine XS.bipush X69.here hx rfl (hb hby d12_46) ?_
          show Steps p.tables e below (T69.setTop (mkF m 48 #[.val (.ref a1), .val (.int p2), .val (.ref b1), .val (.int (1 : Int32))] [(.int (8 : Int32)), (.int p2)])) _
          refine XS.iand X69.here hx rfl (hb hby d12_48) rfl ?_
          exact ktx
        by_cases hc73_49 : (p2 &&& (8 : Int32)) = (0 : Int32)
        · have hy : ys = [(1 : Int32)] := by rw [hys]; simp [own_bs, hc4_9, hc6_22, hc71_35, hc73_49]
          have hzz : z = (1 : Int32) := by rw [hz, hy]; rfl
          have f74 := ((V_a.ext E1).other W69 ne2)
          obtain ⟨cl75, Ar75, -, S75, M75, -, -⟩ := id f74
          have hc76_62 : z = (1 : Int32) := hzz
          have hc77_68 : (0 : Int32) < (1 : Int32) := (by decide)
          obtain ⟨cl78, Ar78, q78, S78, M78, H78, G78⟩ := id f74
          have hin78 : ¬ ((0 : Int32) < 0 ∨ cl78.slots.size ≤ ((0 : Int32)).toNatClampNeg) := inb_of S78 ⟨by decide, by rw [hzz]; decide⟩
          have hat78 : cl78.slots[((0 : Int32)).toNatClampNeg]? = some (.int (1 : Int32)) := Has.at H78 hin78 (by rw [hy]; rfl)
          obtain ⟨cl79, Ar79, q79, S79, M79, H79, G79⟩ := id V69
          have hin79 : ¬ ((0 : Int32) < 0 ∨ cl79.slots.size ≤ ((0 : Int32)).toNatClampNeg) := inb_of S79 ⟨by decide, by decide⟩
          have hat79 : cl79.slots[((0 : Int32)).toNatClampNeg]? = some (.int (1 : Int32)) := Has.at H79 hin79 rfl
          have hc80_77 : (1 : Int32) = (1 : Int32) := (by decide)
          have go81 : own_go p e below (s₁.setTop (entryFrame m #[(.ref a1), (.int p2)] 4)) (T69.setTop (mkF m 82 #[.val (.ref a1), .val (.int p2), .val (.ref b1), .val (.int (1 : Int32))] [])) := by
            intro ttx ktx
            refine go72 ttx ?_
            show Steps p.tables e below (T69.setTop (mkF m 49 #[.val (.ref a1), .val (.int p2), .val (.ref b1), .val (.int (1 : Int32))] [(.int (p2 &&& (8 : Int32)))])) _
            refine XS.ifYes X69.here hx rfl (pc0 := 49) (pc' := 59) rfl (hb hby d12_49) rfl ((if0 _ _).trans (teq hc73_49).1) (by decide) (by decide) ?_
            show Steps p.tables e below (T69.setTop (mkF m 59 #[.val (.ref a1), .val (.int p2), .val (.ref b1), .val (.int (1 : Int32))] [])) _
            refine XS.aloadN X69.here hx rfl (hb hby d12_59) rfl rfl ?_
            show Steps p.tables e below (T69.setTop (mkF m 60 #[.val (.ref a1), .val (.int p2), .val (.ref b1), .val (.int (1 : Int32))] [(.ref a1)])) _
            refine X69.arraylength hx (own_hp e69 Ar75.1) (State.isArrayOf_alike hZ.alike Ar75.2.1) (g := (mkF m 60 #[.val (.ref a1), .val (.int p2), .val (.ref b1), .val (.int (1 : Int32))] [(.ref a1)])) rfl rfl (hb hby d12_60) _ ?_
            rw [len_of S75 M75]
            show Steps p.tables e below (T69.setTop (mkF m 61 #[.val (.ref a1), .val (.int p2), .val (.ref b1), .val (.int (1 : Int32))] [(.int z)])) _
            refine XS.iloadN X69.here hx rfl (hb hby d12_61) rfl ?_
            show Steps p.tables e below (T69.setTop (mkF m 62 #[.val (.ref a1), .val (.int p2), .val (.ref b1), .val (.int (1 : Int32))] [(.int (1 : Int32)), (.int z)])) _
            refine XS.icmpYes X69.here hx rfl (pc0 := 62) (pc' := 67) rfl (hb hby d12_62) rfl (teq hc76_62).1 (by decide) (by decide) ?_
            show Steps p.tables e below (T69.setTop (mkF m 67 #[.val (.ref a1), .val (.int p2), .val (.ref b1), .val (.int (1 : Int32))] [])) _
            refine XS.iloadN X69.here hx rfl (hb hby d12_67) rfl ?_
            show Steps p.tables e below (T69.setTop (mkF m 68 #[.val (.ref a1), .val (.int p2), .val (.ref b1), .val (.int (1 : Int32))] [(.int (1 : Int32))])) _
            refine XS.ifNo X69.here hx rfl (hb hby d12_68) rfl ((if0 _ _).trans (tlt hc77_68).2.2.2) ?_
            show Steps p.tables e below (T69.setTop (mkF m 71 #[.val (.ref a1), .val (.int p2), .val (.ref b1), .val (.int (1 : Int32))] [])) _
            refine XS.aloadN X69.here hx rfl (hb hby d12_71) rfl rfl ?_
            show Steps p.tables e below (T69.setTop (mkF m 72 #[.val (.ref a1), .val (.int p2), .val (.ref b1), .val (.int (1 : Int32))] [(.ref a1)])) _
            refine XS.iconst X69.here hx rfl (hb hby d12_72) ?_
            show Steps p.tables e below (T69.setTop (mkF m 73 #[.val (.ref a1), .val (.int p2), .val (.ref b1), .val (.int (1 : Int32))] [(.int (0 : Int32)), (.ref a1)])) _
            refine X69.iaload hx (j := (0 : Int32)) (v := (.int (1 : Int32))) (own_hp e69 Ar78.1) (State.isArrayOf_alike hZ.alike Ar78.2.1) Ar78.2.2 hin78 hat78 (g := (mkF m 73 #[.val (.ref a1), .val (.int p2), .val (.ref b1), .val (.int (1 : Int32))] [(.int (0 : Int32)), (.ref a1)])) rfl rfl (hb hby d12_73) _ ?_
            show Steps p.tables e below (T69.setTop (mkF m 74 #[.val (.ref a1), .val (.int p2), .val (.ref b1), .val (.int (1 : Int32))] [(.int (1 : Int32))])) _
            refine XS.aloadN X69.here hx rfl (hb hby d12_74) rfl rfl ?_
            show Steps p.tables e below (T69.setTop (mkF m 75 #[.val (.ref a1), .val (.int p2), .val (.ref b1), .val (.int (1 : Int32))] [(.ref b1), (.int (1 : Int32))])) _
            refine XS.iconst X69.here hx rfl (hb hby d12_75) ?_
            show Steps p.tables e below (T69.setTop (mkF m 76 #[.val (.ref a1), .val (.int p2), .val (.ref b1), .val (.int (1 : Int32))] [(.int (0 : Int32)), (.ref b1), (.int (1 : Int32))])) _
            refine X69.iaload hx (j := (0 : Int32)) (v := (.int (1 : Int32))) (own_hp e69 Ar79.1) (State.isArrayOf_alike hZ.alike Ar79.2.1) Ar79.2.2 hin79 hat79 (g := (mkF m 76 #[.val (.ref a1), .val (.int p2), .val (.ref b1), .val (.int (1 : Int32))] [(.int (0 : Int32)), (.ref b1), (.int (1 : Int32))])) rfl rfl (hb hby d12_76) _ ?_
            show Steps p.tables e below (T69.setTop (mkF m 77 #[.val (.ref a1), .val (.int p2), .val (.ref b1), .val (.int (1 : Int32))] [(.int (1 : Int32)), (.int (1 : Int32))])) _
            refine XS.icmpYes X69.here hx rfl (pc0 := 77) (pc' := 82) rfl (hb hby d12_77) rfl (teq hc80_77).1 (by decide) (by decide) ?_
            exact ktx
          have hc82_84 : ¬ ((1 : Int32) < (1 : Int32)) := (by decide)
          have hc83_100 : ¬ ((2 : Int32) < (1 : Int32)) := (by decide)
          have hc84_116 : ¬ ((3 : Int32) < (1 : Int32)) := (by decide)
          have go85 : own_go p e below (s₁.setTop (entryFrame m #[(.ref a1), (.int p2)] 4)) (T69.setTop (mkF m 131 #[.val (.ref a1), .val (.int p2), .val (.ref b1), .val (.int (1 : Int32))] [(.int (1 : Int32))])) := by
            intro ttx ktx
            refine go81 ttx ?_
            show Steps p.tables e below (T69.setTop (mkF m 82 #[.val (.ref a1), .val (.int p2), .val (.ref b1), .val (.int (1 : Int32))] [])) _
            refine XS.iloadN X69.here hx rfl (hb hby d12_82) rfl ?_
            show Steps p.tables e below (T69.setTop (mkF m 83 #[.val (.ref a1), .val (.int p2), .val (.ref b1), .val (.int (1 : Int32))] [(.int (1 : Int32))])) _
            refine XS.iconst X69.here hx rfl (hb hby d12_83) ?_
            show Steps p.tables e below (T69.setTop (mkF m 84 #[.val (.ref a1), .val (.int p2), .val (.ref b1), .val (.int (1 : Int32))] [(.int (1 : Int32)), (.int (1 : Int32))])) _
            refine XS.icmpYes X69.here hx rfl (pc0 := 84) (pc' := 98) rfl (hb hby d12_84) rfl (flt hc82_84).2.2.2 (by decide) (by decide) ?_
            show Steps p.tables e below (T69.setTop (mkF m 98 #[.val (.ref a1), .val (.int p2), .val (.ref b1), .val (.int (1 : Int32))] [])) _
            refine XS.iloadN X69.here hx rfl (hb hby d12_98) rfl ?_
            show Steps p.tables e below (T69.setTop (mkF m 99 #[.val (.ref a1), .val (.int p2), .val (.ref b1), .val (.int (1 : Int32))] [(.int (1 : Int32))])) _
            refine XS.iconst X69.here hx rfl (hb hby d12_99) ?_
            show Steps p.tables e below (T69.setTop (mkF m 100 #[.val (.ref a1), .val (.int p2), .val (.ref b1), .val (.int (1 : Int32))] [(.int (2 : Int32)), (.int (1 : Int32))])) _
            refine XS.icmpYes X69.here hx rfl (pc0 := 100) (pc' := 114) rfl (hb hby d12_100) rfl (flt hc83_100).2.2.2 (by decide) (by decide) ?_
            show Steps p.tables e below (T69.setTop (mkF m 114 #[.val (.ref a1), .val (.int p2), .val (.ref b1), .val (.int (1 : Int32))] [])) _
            refine XS.iloadN X69.here hx rfl (hb hby d12_114) rfl ?_
            show Steps p.tables e below (T69.setTop (mkF m 115 #[.val (.ref a1), .val (.int p2), .val (.ref b1), .val (.int (1 : Int32))] [(.int (1 : Int32))])) _
            refine XS.iconst X69.here hx rfl (hb hby d12_115) ?_
            show Steps p.tables e below (T69.setTop (mkF m 116 #[.val (.ref a1), .val (.int p2), .val (.ref b1), .val (.int (1 : Int32))] [(.int (3 : Int32)), (.int (1 : Int32))])) _
            refine XS.icmpYes X69.here hx rfl (pc0 := 116) (pc' := 130) rfl (hb hby d12_116) rfl (flt hc84_116).2.2.2 (by decide) (by decide) ?_
            show Steps p.tables e below (T69.setTop (mkF m 130 #[.val (.ref a1), .val (.int p2), .val (.ref b1), .val (.int (1 : Int32))] [])) _
            refine XS.iconst X69.here hx rfl (hb hby d12_130) ?_
            exact ktx
          obtain ⟨fs, hr, hrun, hended, hW, hsame⟩ := X69.leave (v := some (.int (1 : Int32))) (fun h => by rw [Bd.returns] at h; cases h)
          refine ⟨_, _, go85 _ ?_, hrun, hended, _, _, rfl, ?_, ⟨_, rfl⟩, hW, hsame.mono (by decide) (by decide)⟩
          · exact retN X69 hx (t := .boolean) Bd.returns (by simp) (hb hby d12_131) hr
          · show Q12 Z a1 p2 kb z ys h0 n0 _ T69.heap _
            rw [e69]
            exact ⟨rfl, N69, K69⟩
        · obtain ⟨cl86, Ar86, q86, S86, M86, H86, G86⟩ := id V69
          have hin86 : ¬ ((1 : Int32) < 0 ∨ cl86.slots.size ≤ ((1 : Int32)).toNatClampNeg) := inb_of S86 ⟨by decide, by decide⟩
          obtain ⟨T87, h87, X87, e87, W87, st87⟩ := stI X69 hx hZ e69 Ar86 (j := (1 : Int32)) hin86 (g := (mkF m 55 #[.val (.ref a1), .val (.int p2), .val (.ref b1), .val (.int (1 : Int32))] [(.int (3 : Int32)), (.int (1 : Int32)), (.ref b1)])) rfl rfl (hb hby d12_55)
          have Z87 : n0 ≤ h87.size := Nat.le_trans Z69 (Nat.le_of_eq W87.size.symm)
          have K87 : Keep h0 h87 [] := K69.wr W87 (Or.inr sz_b1)
          have N87 := Fr.snoc X87 N69 g_b1
          have V87 : Arv Z h87 b1 k1 .int (4 : Int32) [(.int (1 : Int32)), (.int (3 : Int32)), (.int (0 : Int32)), (.int (0 : Int32))] (.int (0 : Int32)) := Arv.set Ar86 q86 S86 M86 H86 G86 rfl W87 1 rfl (Nat.le_of_ble_eq_true rfl)
          have hy : ys = [(1 : Int32), (3 : Int32)] := by rw [hys]; simp [own_bs, hc4_9, hc6_22, hc71_35, hc73_49]
          have hzz : z = (2 : Int32) := by rw [hz, hy]; rfl
          have f88 := (((V_a.ext E1).other W69 ne2).other W87 ne2)
          obtain ⟨cl89, Ar89, -, S89, M89, -, -⟩ := id f88
          have hc90_62 : z = (2 : Int32) := hzz
          have hc91_68 : (0 : Int32) < (2 : Int32) := (by decide)
          have go92 : own_go p e below (s₁.setTop (entryFrame m #[(.ref a1), (.int p2)] 4)) (T87.setTop (mkF m 73 #[.val (.ref a1), .val (.int p2), .val (.ref b1), .val (.int (2 : Int32))] [(.int (0 : Int32)), (.ref a1)])) := by
            intro ttx ktx
            refine go72 ttx ?_
            show Steps p.tables e below (T69.setTop (mkF m 49 #[.val (.ref a1), .val (.int p2), .val (.ref b1), .val (.int (1 : Int32))] [(.int (p2 &&& (8 : Int32)))])) _
            refine XS.ifNo X69.here hx rfl (hb hby d12_49) rfl ((if0 _ _).trans (feq hc73_49).1) ?_
            show Steps p.tables e below (T69.setTop (mkF m 52 #[.val (.ref a1), .val (.int p2), .val (.ref b1), .val (.int (1 : Int32))] [])) _
            refine XS.aloadN X69.here hx rfl (hb hby d12_52) rfl rfl ?_
            show Steps p.tables e below (T69.setTop (mkF m 53 #[.val (.ref a1), .val (.int p2), .val (.ref b1), .val (.int (1 : Int32))] [(.ref b1)])) _
            refine XS.iloadN X69.here hx rfl (hb hby d12_53) rfl ?_
            show Steps p.tables e below (T69.setTop (mkF m 54 #[.val (.ref a1), .val (.int p2), .val (.ref b1), .val (.int (1 : Int32))] [(.int (1 : Int32)), (.ref b1)])) _
            refine XS.iconst X69.here hx rfl (hb hby d12_54) ?_
            show Steps p.tables e below (T69.setTop (mkF m 55 #[.val (.ref a1), .val (.int p2), .val (.ref b1), .val (.int (1 : Int32))] [(.int (3 : Int32)), (.int (1 : Int32)), (.ref b1)])) _
            refine st87 _ ?_
            show Steps p.tables e below (T87.setTop (mkF m 56 #[.val (.ref a1), .val (.int p2), .val (.ref b1), .val (.int (1 : Int32))] [])) _
            refine XS.iinc X87.here hx rfl (hb hby d12_56) rfl (l' := #[.val (.ref a1), .val (.int p2), .val (.ref b1), .val (.int (2 : Int32))]) rfl ?_
            show Steps p.tables e below (T87.setTop (mkF m 59 #[.val (.ref a1), .val (.int p2), .val (.ref b1), .val (.int (2 : Int32))] [])) _
            refine XS.aloadN X87.here hx rfl (hb hby d12_59) rfl rfl ?_
            show Steps p.tables e below (T87.setTop (mkF m 60 #[.val (.ref a1), .val (.int p2), .val (.ref b1), .val (.int (2 : Int32))] [(.ref a1)])) _
            refine X87.arraylength hx (own_hp e87 Ar89.1) (State.isArrayOf_alike hZ.alike Ar89.2.1) (g := (mkF m 60 #[.val (.ref a1), .val (.int p2), .val (.ref b1), .val (.int (2 : Int32))] [(.ref a1)])) rfl rfl (hb hby d12_60) _ ?_
            rw [len_of S89 M89]
            show Steps p.tables e below (T87.setTop (mkF m 61 #[.val (.ref a1), .val (.int p2), .val (.ref b1), .val (.int (2 : Int32))] [(.int z)])) _
            refine XS.iloadN X87.here hx rfl (hb hby d12_61) rfl ?_
            show Steps p.tables e below (T87.setTop (mkF m 62 #[.val (.ref a1), .val (.int p2), .val (.ref b1), .val (.int (2 : Int32))] [(.int (2 : Int32)), (.int z)])) _
            refine XS.icmpYes X87.here hx rfl (pc0 := 62) (pc' := 67) rfl (hb hby d12_62) rfl (teq hc90_62).1 (by decide) (by decide) ?_
            show Steps p.tables e below (T87.setTop (mkF m 67 #[.val (.ref a1), .val (.int p2), .val (.ref b1), .val (.int (2 : Int32))] [])) _
            refine XS.iloadN X87.here hx rfl (hb hby d12_67) rfl ?_
            show Steps p.tables e below (T87.setTop (mkF m 68 #[.val (.ref a1), .val (.int p2), .val (.ref b1), .val (.int (2 : Int32))] [(.int (2 : Int32))])) _
            refine XS.ifNo X87.here hx rfl (hb hby d12_68) rfl ((if0 _ _).trans (tlt hc91_68).2.2.2) ?_
            show Steps p.tables e below (T87.setTop (mkF m 71 #[.val (.ref a1), .val (.int p2), .val (.ref b1), .val (.int (2 : Int32))] [])) _
            refine XS.aloadN X87.here hx rfl (hb hby d12_71) rfl rfl ?_
            show Steps p.tables e below (T87.setTop (mkF m 72 #[.val (.ref a1), .val (.int p2), .val (.ref b1), .val (.int (2 : Int32))] [(.ref a1)])) _
            refine XS.iconst X87.here hx rfl (hb hby d12_72) ?_
            exact ktx
          obtain ⟨cl93, Ar93, q93, S93, M93, H93, G93⟩ := id f88
          have hin93 : ¬ ((0 : Int32) < 0 ∨ cl93.slots.size ≤ ((0 : Int32)).toNatClampNeg) := inb_of S93 ⟨by decide, by rw [hzz]; decide⟩
          have hat93 : cl93.slots[((0 : Int32)).toNatClampNeg]? = some (.int (1 : Int32)) := Has.at H93 hin93 (by rw [hy]; rfl)
          obtain ⟨cl94, Ar94, q94, S94, M94, H94, G94⟩ := id V87
          have hin94 : ¬ ((0 : Int32) < 0 ∨ cl94.slots.size ≤ ((0 : Int32)).toNatClampNeg) := inb_of S94 ⟨by decide, by decide⟩
          have hat94 : cl94.slots[((0 : Int32)).toNatClampNeg]? = some (.int (1 : Int32)) := Has.at H94 hin94 rfl
          have hc95_77 : (1 : Int32) = (1 : Int32) := (by decide)
          have hc96_84 : (1 : Int32) < (2 : Int32) := (by decide)
          obtain ⟨cl97, Ar97, q97, S97, M97, H97, G97⟩ := id f88
          have hin97 : ¬ ((1 : Int32) < 0 ∨ cl97.slots.size ≤ ((1 : Int32)).toNatClampNeg) := inb_of S97 ⟨by decide, by rw [hzz]; decide⟩
          have hat97 : cl97.slots[((1 : Int32)).toNatClampNeg]? = some (.int (3 : Int32)) := Has.at H97 hin97 (by rw [hy]; rfl)
          obtain ⟨cl98, Ar98, q98, S98, M98, H98, G98⟩ := id V87
          have hin98 : ¬ ((1 : Int32) < 0 ∨ cl98.slots.size ≤ ((1 : Int32)).toNatClampNeg) := inb_of S98 ⟨by decide, by decide⟩
          have hat98 : cl98.slots[((1 : Int32)).toNatClampNeg]? = some (.int (3 : Int32)) := Has.at H98 hin98 rfl
          have hc99_93 : (3 : Int32) = (3 : Int32) := (by decide)
          have go100 : own_go p e below (s₁.setTop (entryFrame m #[(.ref a1), (.int p2)] 4)) (T87.setTop (mkF m 98 #[.val (.ref a1), .val (.int p2), .val (.ref b1), .val (.int (2 : Int32))] [])) := by
            intro ttx ktx
            refine go92 ttx ?_
            show Steps p.tables e below (T87.setTop (mkF m 73 #[.val (.ref a1), .val (.int p2), .val (.ref b1), .val (.int (2 : Int32))] [(.int (0 : Int32)), (.ref a1)])) _
            refine X87.iaload hx (j := (0 : Int32)) (v := (.int (1 : Int32))) (own_hp e87 Ar93.1) (State.isArrayOf_alike hZ.alike Ar93.2.1) Ar93.2.2 hin93 hat93 (g := (mkF m 73 #[.val (.ref a1), .val (.int p2), .val (.ref b1), .val (.int (2 : Int32))] [(.int (0 : Int32)), (.ref a1)])) rfl rfl (hb hby d12_73) _ ?_
            show Steps p.tables e below (T87.setTop (mkF m 74 #[.val (.ref a1), .val (.int p2), .val (.ref b1), .val (.int (2 : Int32))] [(.int (1 : Int32))])) _
            refine XS.aloadN X87.here hx rfl (hb hby d12_74) rfl rfl ?_
            show Steps p.tables e below (T87.setTop (mkF m 75 #[.val (.ref a1), .val (.int p2), .val (.ref b1), .val (.int (2 : Int32))] [(.ref b1), (.int (1 : Int32))])) _
            refine XS.iconst X87.here hx rfl (hb hby d12_75) ?_
            show Steps p.tables e below (T87.setTop (mkF m 76 #[.val (.ref a1), .val (.int p2), .val (.ref b1), .val (.int (2 : Int32))] [(.int (0 : Int32)), (.ref b1), (.int (1 : Int32))])) _
            refine X87.iaload hx (j := (0 : Int32)) (v := (.int (1 : Int32))) (own_hp e87 Ar94.1) (State.isArrayOf_alike hZ.alike Ar94.2.1) Ar94.2.2 hin94 hat94 (g := (mkF m 76 #[.val (.ref a1), .val (.int p2), .val (.ref b1), .val (.int (2 : Int32))] [(.int (0 : Int32)), (.ref b1), (.int (1 : Int32))])) rfl rfl (hb hby d12_76) _ ?_
            show Steps p.tables e below (T87.setTop (mkF m 77 #[.val (.ref a1), .val (.int p2), .val (.ref b1), .val (.int (2 : Int32))] [(.int (1 : Int32)), (.int (1 : Int32))])) _
            refine XS.icmpYes X87.here hx rfl (pc0 := 77) (pc' := 82) rfl (hb hby d12_77) rfl (teq hc95_77).1 (by decide) (by decide) ?_
            show Steps p.tables e below (T87.setTop (mkF m 82 #[.val (.ref a1), .val (.int p2), .val (.ref b1), .val (.int (2 : Int32))] [])) _
            refine XS.iloadN X87.here hx rfl (hb hby d12_82) rfl ?_
            show Steps p.tables e below (T87.setTop (mkF m 83 #[.val (.ref a1), .val (.int p2), .val (.ref b1), .val (.int (2 : Int32))] [(.int (2 : Int32))])) _
            refine XS.iconst X87.here hx rfl (hb hby d12_83) ?_
            show Steps p.tables e below (T87.setTop (mkF m 84 #[.val (.ref a1), .val (.int p2), .val (.ref b1), .val (.int (2 : Int32))] [(.int (1 : Int32)), (.int (2 : Int32))])) _
            refine XS.icmpNo X87.here hx rfl (hb hby d12_84) rfl (tlt hc96_84).2.2.2 ?_
            show Steps p.tables e below (T87.setTop (mkF m 87 #[.val (.ref a1), .val (.int p2), .val (.ref b1), .val (.int (2 : Int32))] [])) _
            refine XS.aloadN X87.here hx rfl (hb hby d12_87) rfl rfl ?_
            show Steps p.tables e below (T87.setTop (mkF m 88 #[.val (.ref a1), .val (.int p2), .val (.ref b1), .val (.int (2 : Int32))] [(.ref a1)])) _
            refine XS.iconst X87.here hx rfl (hb hby d12_88) ?_
            show Steps p.tables e below (T87.setTop (mkF m 89 #[.val (.ref a1), .val (.int p2), .val (.ref b1), .val (.int (2 : Int32))] [(.int (1 : Int32)), (.ref a1)])) _
            refine X87.iaload hx (j := (1 : Int32)) (v := (.int (3 : Int32))) (own_hp e87 Ar97.1) (State.isArrayOf_alike hZ.alike Ar97.2.1) Ar97.2.2 hin97 hat97 (g := (mkF m 89 #[.val (.ref a1), .val (.int p2), .val (.ref b1), .val (.int (2 : Int32))] [(.int (1 : Int32)), (.ref a1)])) rfl rfl (hb hby d12_89) _ ?_
            show Steps p.tables e below (T87.setTop (mkF m 90 #[.val (.ref a1), .val (.int p2), .val (.ref b1), .val (.int (2 : Int32))] [(.int (3 : Int32))])) _
            refine XS.aloadN X87.here hx rfl (hb hby d12_90) rfl rfl ?_
            show Steps p.tables e below (T87.setTop (mkF m 91 #[.val (.ref a1), .val (.int p2), .val (.ref b1), .val (.int (2 : Int32))] [(.ref b1), (.int (3 : Int32))])) _
            refine XS.iconst X87.here hx rfl (hb hby d12_91) ?_
            show Steps p.tables e below (T87.setTop (mkF m 92 #[.val (.ref a1), .val (.int p2), .val (.ref b1), .val (.int (2 : Int32))] [(.int (1 : Int32)), (.ref b1), (.int (3 : Int32))])) _
            refine X87.iaload hx (j := (1 : Int32)) (v := (.int (3 : Int32))) (own_hp e87 Ar98.1) (State.isArrayOf_alike hZ.alike Ar98.2.1) Ar98.2.2 hin98 hat98 (g := (mkF m 92 #[.val (.ref a1), .val (.int p2), .val (.ref b1), .val (.int (2 : Int32))] [(.int (1 : Int32)), (.ref b1), (.int (3 : Int32))])) rfl rfl (hb hby d12_92) _ ?_
            show Steps p.tables e below (T87.setTop (mkF m 93 #[.val (.ref a1), .val (.int p2), .val (.ref b1), .val (.int (2 : Int32))] [(.int (3 : Int32)), (.int (3 : Int32))])) _
            refine XS.icmpYes X87.here hx rfl (pc0 := 93) (pc' := 98) rfl (hb hby d12_93) rfl (teq hc99_93).1 (by decide) (by decide) ?_
            exact ktx
          have hc101_100 : ¬ ((2 : Int32) < (2 : Int32)) := (by decide)
          have hc102_116 : ¬ ((3 : Int32) < (2 : Int32)) := (by decide)
          have go103 : own_go p e below (s₁.setTop (entryFrame m #[(.ref a1), (.int p2)] 4)) (T87.setTop (mkF m 131 #[.val (.ref a1), .val (.int p2), .val (.ref b1), .val (.int (2 : Int32))] [(.int (1 : Int32))])) := by
            intro ttx ktx
            refine go100 ttx ?_
            show Steps p.tables e below (T87.setTop (mkF m 98 #[.val (.ref a1), .val (.int p2), .val (.ref b1), .val (.int (2 : Int32))] [])) _
            refine XS.iloadN X87.here hx rfl (hb hby d12_98) rfl ?_
            show Steps p.tables e below (T87.setTop (mkF m 99 #[.val (.ref a1), .val (.int p2), .val (.ref b1), .val (.int (2 : Int32))] [(.int (2 : Int32))])) _
            refine XS.iconst X87.here hx rfl (hb hby d12_99) ?_
            show Steps p.tables e below (T87.setTop (mkF m 100 #[.val (.ref a1), .val (.int p2), .val (.ref b1), .val (.int (2 : Int32))] [(.int (2 : Int32)), (.int (2 : Int32))])) _
            refine XS.icmpYes X87.here hx rfl (pc0 := 100) (pc' := 114) rfl (hb hby d12_100) rfl (flt hc101_100).2.2.2 (by decide) (by decide) ?_
            show Steps p.tables e below (T87.setTop (mkF m 114 #[.val (.ref a1), .val (.int p2), .val (.ref b1), .val (.int (2 : Int32))] [])) _
            refine XS.iloadN X87.here hx rfl (hb hby d12_114) rfl ?_
            show Steps p.tables e below (T87.setTop (mkF m 115 #[.val (.ref a1), .val (.int p2), .val (.ref b1), .val (.int (2 : Int32))] [(.int (2 : Int32))])) _
            refine XS.iconst X87.here hx rfl (hb hby d12_115) ?_
            show Steps p.tables e below (T87.setTop (mkF m 116 #[.val (.ref a1), .val (.int p2), .val (.ref b1), .val (.int (2 : Int32))] [(.int (3 : Int32)), (.int (2 : Int32))])) _
            refine XS.icmpYes X87.here hx rfl (pc0 := 116) (pc' := 130) rfl (hb hby d12_116) rfl (flt hc102_116).2.2.2 (by decide) (by decide) ?_
            show Steps p.tables e below (T87.setTop (mkF m 130 #[.val (.ref a1), .val (.int p2), .val (.ref b1), .val (.int (2 : Int32))] [])) _
            refine XS.iconst X87.here hx rfl (hb hby d12_130) ?_
            exact ktx
          obtain ⟨fs, hr, hrun, hended, hW, hsame⟩ := X87.leave (v := some (.int (1 : Int32))) (fun h => by rw [Bd.returns] at h; cases h)
          refine ⟨_, _, go103 _ ?_, hrun, hended, _, _, rfl, ?_, ⟨_, rfl⟩, hW, hsame.mono (by decide) (by decide)⟩
          · exact retN X87 hx (t := .boolean) Bd.returns (by simp) (hb hby d12_131) hr
          · show Q12 Z a1 p2 kb z ys h0 n0 _ T87.heap _
            rw [e87]
            exact ⟨rfl, N87, K87⟩
      · obtain ⟨cl104, Ar104, q104, S104, M104, H104, G104⟩ := id V69
        have hin104 : ¬ ((1 : Int32) < 0 ∨ cl104.slots.size ≤ ((1 : Int32)).toNatClampNeg) := inb_of S104 ⟨by decide, by decide⟩
        obtain ⟨T105, h105, X105, e105, W105, st105⟩ := stI X69 hx hZ e69 Ar104 (j := (1 : Int32)) hin104 (g := (mkF m 41 #[.val (.ref a1), .val (.int p2), .val (.ref b1), .val (.int (1 : Int32))] [(.int (2 : Int32)), (.int (1 : Int32)), (.ref b1)])) rfl rfl (hb hby d12_41)
        have Z105 : n0 ≤ h105.size := Nat.le_trans Z69 (Nat.le_of_eq W105.size.symm)
        have K105 : Keep h0 h105 [] := K69.wr W105 (Or.inr sz_b1)
        have N105 := Fr.snoc X105 N69 g_b1
        have V105 : Arv Z h105 b1 k1 .int (4 : Int32) [(.int (1 : Int32)), (.int (2 : Int32)), (.int (0 : Int32)), (.int (0 : Int32))] (.int (0 : Int32)) := Arv.set Ar104 q104 S104 M104 H104 G104 rfl W105 1 rfl (Nat.le_of_ble_eq_true rfl)
        have go106 : own_go p e below (s₁.setTop (entryFrame m #[(.ref a1), (.int p2)] 4)) (T105.setTop (mkF m 49 #[.val (.ref a1), .val (.int p2), .val (.ref b1), .val (.int (2 : Int32))] [(.int (p2 &&& (8 : Int32)))])) := by
          intro ttx ktx
          refine go70 ttx ?_
          show Steps p.tables e below (T69.setTop (mkF m 35 #[.val (.ref a1), .val (.int p2), .val (.ref b1), .val (.int (1 : Int32))] [(.int (p2 &&& (4 : Int32)))])) _
          refine XS.ifNo X69.here hx rfl (hb hby d12_35) rfl ((if0 _ _).trans (feq hc71_35).1) ?_
          show Steps p.tables e below (T69.setTop (mkF m 38 #[.val (.ref a1), .val (.int p2), .val (.ref b1), .val (.int (1 : Int32))] [])) _
          refine XS.aloadN X69.here hx rfl (hb hby d12_38) rfl rfl ?_
          show Steps p.tables e below (T69.setTop (mkF m 39 #[.val (.ref a1), .val (.int p2), .val (.ref b1), .val (.int (1 : Int32))] [(.ref b1)])) _
          refine XS.iloadN X69.here hx rfl (hb hby d12_39) rfl ?_
          show Steps p.tables e below (T69.setTop (mkF m 40 #[.val (.ref a1), .val (.int p2), .val (.ref b1), .val (.int (1 : Int32))] [(.int (1 : Int32)), (.ref b1)])) _
          refine XS.iconst X69.here hx rfl (hb hby d12_40) ?_
          show Steps p.tables e below (T69.setTop (mkF m 41 #[.val (.ref a1), .val (.int p2), .val (.ref b1), .val (.int (1 : Int32))] [(.int (2 : Int32)), (.int (1 : Int32)), (.ref b1)])) _
          refine st105 _ ?_
          show Steps p.tables e below (T105.setTop (mkF m 42 #[.val (.ref a1), .val (.int p2), .val (.ref b1), .val (.int (1 : Int32))] [])) _
          refine XS.iinc X105.here hx rfl (hb hby d12_42) rfl (l' := #[.val (.ref a1), .val (.int p2), .val (.ref b1), .val (.int (2 : Int32))]) rfl ?_
          show Steps p.tables e below (T105.setTop (mkF m 45 #[.val (.ref a1), .val (.int p2), .val (.ref b1), .val (.int (2 : Int32))] [])) _
          refine XS.iloadN X105.here hx rfl (hb hby d12_45) rfl ?_
          show Steps p.tables e below (T105.setTop (mkF m 46 #[.val (.ref a1), .val (.int p2), .val (.ref b1), .val (.int (2 : Int32))] [(.int p2)])) _
          refine XS.bipush X105.here hx rfl (hb hby d12_46) ?_
          show Steps p.tables e below (T105.setTop (mkF m 48 #[.val (.ref a1), .val (.int p2), .val (.ref b1), .val (.int (2 : Int32))] [(.int (8 : Int32)), (.int p2)])) _
          refine XS.iand X105.here hx rfl (hb hby d12_48) rfl ?_
          exact ktx
        by_cases hc107_49 : (p2 &&& (8 : Int32)) = (0 : Int32)
        · have hy : ys = [(1 : Int32), (2 : Int32)] := by rw [hys]; simp [own_bs, hc4_9, hc6_22, hc71_35, hc107_49]
          have hzz : z = (2 : Int32) := by rw [hz, hy]; rfl
          have f108 := (((V_a.ext E1).other W69 ne2).other W105 ne2)
          obtain ⟨cl109, Ar109, -, S109, M109, -, -⟩ := id f108
          have hc110_62 : z = (2 : Int32) := hzz
          have hc111_68 : (0 : Int32) < (2 : Int32) := (by decide)
          obtain ⟨cl112, Ar112, q112, S112, M112, H112, G112⟩ := id f108
          have hin112 : ¬ ((0 : Int32) < 0 ∨ cl112.slots.size ≤ ((0 : Int32)).toNatClampNeg) := inb_of S112 ⟨by decide, by rw [hzz]; decide⟩
          have hat112 : cl112.slots[((0 : Int32)).toNatClampNeg]? = some (.int (1 : Int32)) := Has.at H112 hin112 (by rw [hy]; rfl)
          obtain ⟨cl113, Ar113, q113, S113, M113, H113, G113⟩ := id V105
          have hin113 : ¬ ((0 : Int32) < 0 ∨ cl113.slots.size ≤ ((0 : Int32)).toNatClampNeg) := inb_of S113 ⟨by decide, by decide⟩
          have hat113 : cl113.slots[((0 : Int32)).toNatClampNeg]? = some (.int (1 : Int32)) := Has.at H113 hin113 rfl
          have hc114_77 : (1 : Int32) = (1 : Int32) := (by decide)
          have go115 : own_go p e below (s₁.setTop (entryFrame m #[(.ref a1), (.int p2)] 4)) (T105.setTop (mkF m 82 #[.val (.ref a1), .val (.int p2), .val (.ref b1), .val (.int (2 : Int32))] [])) := by
            intro ttx ktx
            refine go106 ttx ?_
            show Steps p.tables e below (T105.setTop (mkF m 49 #[.val (.ref a1), .val (.int p2), .val (.ref b1), .val (.int (2 : Int32))] [(.int (p2 &&& (8 : Int32)))])) _
            refine XS.ifYes X105.here hx rfl (pc0 := 49) (pc' := 59) rfl (hb hby d12_49) rfl ((if0 _ _).trans (teq hc107_49).1) (by decide) (by decide) ?_
            show Steps p.tables e below (T105.setTop (mkF m 59 #[.val (.ref a1), .val (.int p2), .val (.ref b1), .val (.int (2 : Int32))] [])) _
            refine XS.aloadN X105.here hx rfl (hb hby d12_59) rfl rfl ?_
            show Steps p.tables e below (T105.setTop (mkF m 60 #[.val (.ref a1), .val (.int p2), .val (.ref b1), .val (.int (2 : Int32))] [(.ref a1)])) _
            refine X105.arraylength hx (own_hp e105 Ar109.1) (State.isArrayOf_alike hZ.alike Ar109.2.1) (g := (mkF m 60 #[.val (.ref a1), .val (.int p2), .val (.ref b1), .val (.int (2 : Int32))] [(.ref a1)])) rfl rfl (hb hby d12_60) _ ?_
            rw [len_of S109 M109]
            show Steps p.tables e below (T105.setTop (mkF m 61 #[.val (.ref a1), .val (.int p2), .val (.ref b1), .val (.int (2 : Int32))] [(.int z)])) _
            refine XS.iloadN X105.here hx rfl (hb hby d12_61) rfl ?_
            show Steps p.tables e below (T105.setTop (mkF m 62 #[.val (.ref a1), .val (.int p2), .val (.ref b1), .val (.int (2 : Int32))] [(.int (2 : Int32)), (.int z)])) _
            refine XS.icmpYes X105.here hx rfl (pc0 := 62) (pc' := 67) rfl (hb hby d12_62) rfl (teq hc110_62).1 (by decide) (by decide) ?_
            show Steps p.tables e below (T105.setTop (mkF m 67 #[.val (.ref a1), .val (.int p2), .val (.ref b1), .val (.int (2 : Int32))] [])) _
            refine XS.iloadN X105.here hx rfl (hb hby d12_67) rfl ?_
            show Steps p.tables e below (T105.setTop (mkF m 68 #[.val (.ref a1), .val (.int p2), .val (.ref b1), .val (.int (2 : Int32))] [(.int (2 : Int32))])) _
            refine XS.ifNo X105.here hx rfl (hb hby d12_68) rfl ((if0 _ _).trans (tlt hc111_68).2.2.2) ?_
            show Steps p.tables e below (T105.setTop (mkF m 71 #[.val (.ref a1), .val (.int p2), .val (.ref b1), .val (.int (2 : Int32))] [])) _
            refine XS.aloadN X105.here hx rfl (hb hby d12_71) rfl rfl ?_
            show Steps p.tables e below (T105.setTop (mkF m 72 #[.val (.ref a1), .val (.int p2), .val (.ref b1), .val (.int (2 : Int32))] [(.ref a1)])) _
            refine XS.iconst X105.here hx rfl (hb hby d12_72) ?_
            show Steps p.tables e below (T105.setTop (mkF m 73 #[.val (.ref a1), .val (.int p2), .val (.ref b1), .val (.int (2 : Int32))] [(.int (0 : Int32)), (.ref a1)])) _
            refine X105.iaload hx (j := (0 : Int32)) (v := (.int (1 : Int32))) (own_hp e105 Ar112.1) (State.isArrayOf_alike hZ.alike Ar112.2.1) Ar112.2.2 hin112 hat112 (g := (mkF m 73 #[.val (.ref a1), .val (.int p2), .val (.ref b1), .val (.int (2 : Int32))] [(.int (0 : Int32)), (.ref a1)])) rfl rfl (hb hby d12_73) _ ?_
            show Steps p.tables e below (T105.setTop (mkF m 74 #[.val (.ref a1), .val (.int p2), .val (.ref b1), .val (.int (2 : Int32))] [(.int (1 : Int32))])) _
            refine XS.aloadN X105.here hx rfl (hb hby d12_74) rfl rfl ?_
            show Steps p.tables e below (T105.setTop (mkF m 75 #[.val (.ref a1), .val (.int p2), .val (.ref b1), .val (.int (2 : Int32))] [(.ref b1), (.int (1 : Int32))])) _
            refine XS.iconst X105.here hx rfl (hb hby d12_75) ?_
            show Steps p.tables e below (T105.setTop (mkF m 76 #[.val (.ref a1), .val (.int p2), .val (.ref b1), .val (.int (2 : Int32))] [(.int (0 : Int32)), (.ref b1), (.int (1 : Int32))])) _
            refine X105.iaload hx (j := (0 : Int32)) (v := (.int (1 : Int32))) (own_hp e105 Ar113.1) (State.isArrayOf_alike hZ.alike Ar113.2.1) Ar113.2.2 hin113 hat113 (g := (mkF m 76 #[.val (.ref a1), .val (.int p2), .val (.ref b1), .val (.int (2 : Int32))] [(.int (0 : Int32)), (.ref b1), (.int (1 : Int32))])) rfl rfl (hb hby d12_76) _ ?_
            show Steps p.tables e below (T105.setTop (mkF m 77 #[.val (.ref a1), .val (.int p2), .val (.ref b1), .val (.int (2 : Int32))] [(.int (1 : Int32)), (.int (1 : Int32))])) _
            refine XS.icmpYes X105.here hx rfl (pc0 := 77) (pc' := 82) rfl (hb hby d12_77) rfl (teq hc114_77).1 (by decide) (by decide) ?_
            exact ktx
          have hc116_84 : (1 : Int32) < (2 : Int32) := (by decide)
          obtain ⟨cl117, Ar117, q117, S117, M117, H117, G117⟩ := id f108
          have hin117 : ¬ ((1 : Int32) < 0 ∨ cl117.slots.size ≤ ((1 : Int32)).toNatClampNeg) := inb_of S117 ⟨by decide, by rw [hzz]; decide⟩
          have hat117 : cl117.slots[((1 : Int32)).toNatClampNeg]? = some (.int (2 : Int32)) := Has.at H117 hin117 (by rw [hy]; rfl)
          obtain ⟨cl118, Ar118, q118, S118, M118, H118, G118⟩ := id V105
          have hin118 : ¬ ((1 : Int32) < 0 ∨ cl118.slots.size ≤ ((1 : Int32)).toNatClampNeg) := inb_of S118 ⟨by decide, by decide⟩
          have hat118 : cl118.slots[((1 : Int32)).toNatClampNeg]? = some (.int (2 : Int32)) := Has.at H118 hin118 rfl
          have hc119_93 : (2 : Int32) = (2 : Int32) := (by decide)
          have hc120_100 : ¬ ((2 : Int32) < (2 : Int32)) := (by decide)
          have go121 : own_go p e below (s₁.setTop (entryFrame m #[(.ref a1), (.int p2)] 4)) (T105.setTop (mkF m 116 #[.val (.ref a1), .val (.int p2), .val (.ref b1), .val (.int (2 : Int32))] [(.int (3 : Int32)), (.int (2 : Int32))])) := by
            intro ttx ktx
            refine go115 ttx ?_
            show Steps p.tables e below (T105.setTop (mkF m 82 #[.val (.ref a1), .val (.int p2), .val (.ref b1), .val (.int (2 : Int32))] [])) _
            refine XS.iloadN X105.here hx rfl (hb hby d12_82) rfl ?_
            show Steps p.tables e below (T105.setTop (mkF m 83 #[.val (.ref a1), .val (.int p2), .val (.ref b1), .val (.int (2 : Int32))] [(.int (2 : Int32))])) _
            refine XS.iconst X105.here hx rfl (hb hby d12_83) ?_
            show Steps p.tables e below (T105.setTop (mkF m 84 #[.val (.ref a1), .val (.int p2), .val (.ref b1), .val (.int (2 : Int32))] [(.int (1 : Int32)), (.int (2 : Int32))])) _
            refine XS.icmpNo X105.here hx rfl (hb hby d12_84) rfl (tlt hc116_84).2.2.2 ?_
            show Steps p.tables e below (T105.setTop (mkF m 87 #[.val (.ref a1), .val (.int p2), .val (.ref b1), .val (.int (2 : Int32))] [])) _
            refine XS.aloadN X105.here hx rfl (hb hby d12_87) rfl rfl ?_
            show Steps p.tables e below (T105.setTop (mkF m 88 #[.val (.ref a1), .val (.int p2), .val (.ref b1), .val (.int (2 : Int32))] [(.ref a1)])) _
            refine XS.iconst X105.here hx rfl (hb hby d12_88) ?_
            show Steps p.tables e below (T105.setTop (mkF m 89 #[.val (.ref a1), .val (.int p2), .val (.ref b1), .val (.int (2 : Int32))] [(.int (1 : Int32)), (.ref a1)])) _
            refine X105.iaload hx (j := (1 : Int32)) (v := (.int (2 : Int32))) (own_hp e105 Ar117.1) (State.isArrayOf_alike hZ.alike Ar117.2.1) Ar117.2.2 hin117 hat117 (g := (mkF m 89 #[.val (.ref a1), .val (.int p2), .val (.ref b1), .val (.int (2 : Int32))] [(.int (1 : Int32)), (.ref a1)])) rfl rfl (hb hby d12_89) _ ?_
            show Steps p.tables e below (T105.setTop (mkF m 90 #[.val (.ref a1), .val (.int p2), .val (.ref b1), .val (.int (2 : Int32))] [(.int (2 : Int32))])) _
            refine XS.aloadN X105.here hx rfl (hb hby d12_90) rfl rfl ?_
            show Steps p.tables e below (T105.setTop (mkF m 91 #[.val (.ref a1), .val (.int p2), .val (.ref b1), .val (.int (2 : Int32))] [(.ref b1), (.int (2 : Int32))])) _
            refine XS.iconst X105.here hx rfl (hb hby d12_91) ?_
            show Steps p.tables e below (T105.setTop (mkF m 92 #[.val (.ref a1), .val (.int p2), .val (.ref b1), .val (.int (2 : Int32))] [(.int (1 : Int32)), (.ref b1), (.int (2 : Int32))])) _
            refine X105.iaload hx (j := (1 : Int32)) (v := (.int (2 : Int32))) (own_hp e105 Ar118.1) (State.isArrayOf_alike hZ.alike Ar118.2.1) Ar118.2.2 hin118 hat118 (g := (mkF m 92 #[.val (.ref a1), .val (.int p2), .val (.ref b1), .val (.int (2 : Int32))] [(.int (1 : Int32)), (.ref b1), (.int (2 : Int32))])) rfl rfl (hb hby d12_92) _ ?_
            show Steps p.tables e below (T105.setTop (mkF m 93 #[.val (.ref a1), .val (.int p2), .val (.ref b1), .val (.int (2 : Int32))] [(.int (2 : Int32)), (.int (2 : Int32))])) _
            refine XS.icmpYes X105.here hx rfl (pc0 := 93) (pc' := 98) rfl (hb hby d12_93) rfl (teq hc119_93).1 (by decide) (by decide) ?_
            show Steps p.tables e below (T105.setTop (mkF m 98 #[.val (.ref a1), .val (.int p2), .val (.ref b1), .val (.int (2 : Int32))] [])) _
            refine XS.iloadN X105.here hx rfl (hb hby d12_98) rfl ?_
            show Steps p.tables e below (T105.setTop (mkF m 99 #[.val (.ref a1), .val (.int p2), .val (.ref b1), .val (.int (2 : Int32))] [(.int (2 : Int32))])) _
            refine XS.iconst X105.here hx rfl (hb hby d12_99) ?_
            show Steps p.tables e below (T105.setTop (mkF m 100 #[.val (.ref a1), .val (.int p2), .val (.ref b1), .val (.int (2 : Int32))] [(.int (2 : Int32)), (.int (2 : Int32))])) _
            refine XS.icmpYes X105.here hx rfl (pc0 := 100) (pc' := 114) rfl (hb hby d12_100) rfl (flt hc120_100).2.2.2 (by decide) (by decide) ?_
            show Steps p.tables e below (T105.setTop (mkF m 114 #[.val (.ref a1), .val (.int p2), .val (.ref b1), .val (.int (2 : Int32))] [])) _
            refine XS.iloadN X105.here hx rfl (hb hby d12_114) rfl ?_
            show Steps p.tables e below (T105.setTop (mkF m 115 #[.val (.ref a1), .val (.int p2), .val (.ref b1), .val (.int (2 : Int32))] [(.int (2 : Int32))])) _
            refine XS.iconst X105.here hx rfl (hb hby d12_115) ?_
            exact ktx
          have hc122_116 : ¬ ((3 : Int32) < (2 : Int32)) := (by decide)
          have go123 : own_go p e below (s₁.setTop (entryFrame m #[(.ref a1), (.int p2)] 4)) (T105.setTop (mkF m 131 #[.val (.ref a1), .val (.int p2), .val (.ref b1), .val (.int (2 : Int32))] [(.int (1 : Int32))])) := by
            intro ttx ktx
            refine go121 ttx ?_
            show Steps p.tables e below (T105.setTop (mkF m 116 #[.val (.ref a1), .val (.int p2), .val (.ref b1), .val (.int (2 : Int32))] [(.int (3 : Int32)), (.int (2 : Int32))])) _
            refine XS.icmpYes X105.here hx rfl (pc0 := 116) (pc' := 130) rfl (hb hby d12_116) rfl (flt hc122_116).2.2.2 (by decide) (by decide) ?_
            show Steps p.tables e below (T105.setTop (mkF m 130 #[.val (.ref a1), .val (.int p2), .val (.ref b1), .val (.int (2 : Int32))] [])) _
            refine XS.iconst X105.here hx rfl (hb hby d12_130) ?_
            exact ktx
          obtain ⟨fs, hr, hrun, hended, hW, hsame⟩ := X105.leave (v := some (.int (1 : Int32))) (fun h => by rw [Bd.returns] at h; cases h)
          refine ⟨_, _, go123 _ ?_, hrun, hended, _, _, rfl, ?_, ⟨_, rfl⟩, hW, hsame.mono (by decide) (by decide)⟩
          · exact retN X105 hx (t := .boolean) Bd.returns (by simp) (hb hby d12_131) hr
          · show Q12 Z a1 p2 kb z ys h0 n0 _ T105.heap _
            rw [e105]
            exact ⟨rfl, N105, K105⟩
        · obtain ⟨cl124, Ar124, q124, S124, M124, H124, G124⟩ := id V105
          have hin124 : ¬ ((2 : Int32) < 0 ∨ cl124.slots.size ≤ ((2 : Int32)).toNatClampNeg) := inb_of S124 ⟨by decide, by decide⟩
          obtain ⟨T125, h125, X125, e125, W125, st125⟩ := stI X105 hx hZ e105 Ar124 (j := (2 : Int32)) hin124 (g := (mkF m 55 #[.val (.ref a1), .val (.int p2), .val (.ref b1), .val (.int (2 : Int32))] [(.int (3 : Int32)), (.int (2 : Int32)), (.ref b1)])) rfl rfl (hb hby d12_55)
          have Z125 : n0 ≤ h125.size := Nat.le_trans Z105 (Nat.le_of_eq W125.size.symm)
          have K125 : Keep h0 h125 [] := K105.wr W125 (Or.inr sz_b1)
          have N125 := Fr.snoc X125 N105 g_b1
          have V125 : Arv Z h125 b1 k1 .int (4 : Int32) [(.int (1 : Int32)), (.int (2 : Int32)), (.int (3 : Int32)), (.int (0 : Int32))] (.int (0 : Int32)) := Arv.set Ar124 q124 S124 M124 H124 G124 rfl W125 2 rfl (Nat.le_of_ble_eq_true rfl)
          have hy : ys = [(1 : Int32), (2 : Int32), (3 : Int32)] := by rw [hys]; simp [own_bs, hc4_9, hc6_22, hc71_35, hc107_49]
          have hzz : z = (3 : Int32) := by rw [hz, hy]; rfl
          have f126 := ((((V_a.ext E1).other W69 ne2).other W105 ne2).other W125 ne2)
          obtain ⟨cl127, Ar127, -, S127, M127, -, -⟩ := id f126
          have hc128_62 : z = (3 : Int32) := hzz
          have hc129_68 : (0 : Int32) < (3 : Int32) := (by decide)
          have go130 : own_go p e below (s₁.setTop (entryFrame m #[(.ref a1), (.int p2)] 4)) (T125.setTop (mkF m 73 #[.val (.ref a1), .val (.int p2), .val (.ref b1), .val (.int (3 : Int32))] [(.int (0 : Int32)), (.ref a1)])) := by
            intro ttx ktx
            refine go106 ttx ?_
            show Steps p.tables e below (T105.setTop (mkF m 49 #[.val (.ref a1), .val (.int p2), .val (.ref b1), .val (.int (2 : Int32))] [(.int (p2 &&& (8 : Int32)))])) _
            refine XS.ifNo X105.here hx rfl (hb hby d12_49) rfl ((if0 _ _).trans (feq hc107_49).1) ?_
            show Steps p.tables e below (T105.setTop (mkF m 52 #[.val (.ref a1), .val (.int p2), .val (.ref b1), .val (.int (2 : Int32))] [])) _
            refine XS.aloadN X105.here hx rfl (hb hby d12_52) rfl rfl ?_
            show Steps p.tables e below (T105.setTop (mkF m 53 #[.val (.ref a1), .val (.int p2), .val (.ref b1), .val (.int (2 : Int32))] [(.ref b1)])) _
            refine XS.iloadN X105.here hx rfl (hb hby d12_53) rfl ?_
            show Steps p.tables e below (T105.setTop (mkF m 54 #[.val (.ref a1), .val (.int p2), .val (.ref b1), .val (.int (2 : Int32))] [(.int (2 : Int32)), (.ref b1)])) _
            refine XS.iconst X105.here hx rfl (hb hby d12_54) ?_
            show Steps p.tables e below (T105.setTop (mkF m 55 #[.val (.ref a1), .val (.int p2), .val (.ref b1), .val (.int (2 : Int32))] [(.int (3 : Int32)), (.int (2 : Int32)), (.ref b1)])) _
            refine st125 _ ?_
            show Steps p.tables e below (T125.setTop (mkF m 56 #[.val (.ref a1), .val (.int p2), .val (.ref b1), .val (.int (2 : Int32))] [])) _
            refine XS.iinc X125.here hx rfl (hb hby d12_56) rfl (l' := #[.val (.ref a1), .val (.int p2), .val (.ref b1), .val (.int (3 : Int32))]) rfl ?_
            show Steps p.tables e below (T125.setTop (mkF m 59 #[.val (.ref a1), .val (.int p2), .val (.ref b1), .val (.int (3 : Int32))] [])) _
            refine XS.aloadN X125.here hx rfl (hb hby d12_59) rfl rfl ?_
            show Steps p.tables e below (T125.setTop (mkF m 60 #[.val (.ref a1), .val (.int p2), .val (.ref b1), .val (.int (3 : Int32))] [(.ref a1)])) _
            refine X125.arraylength hx (own_hp e125 Ar127.1) (State.isArrayOf_alike hZ.alike Ar127.2.1) (g := (mkF m 60 #[.val (.ref a1), .val (.int p2), .val (.ref b1), .val (.int (3 : Int32))] [(.ref a1)])) rfl rfl (hb hby d12_60) _ ?_
            rw [len_of S127 M127]
            show Steps p.tables e below (T125.setTop (mkF m 61 #[.val (.ref a1), .val (.int p2), .val (.ref b1), .val (.int (3 : Int32))] [(.int z)])) _
            refine XS.iloadN X125.here hx rfl (hb hby d12_61) rfl ?_
            show Steps p.tables e below (T125.setTop (mkF m 62 #[.val (.ref a1), .val (.int p2), .val (.ref b1), .val (.int (3 : Int32))] [(.int (3 : Int32)), (.int z)])) _
            refine XS.icmpYes X125.here hx rfl (pc0 := 62) (pc' := 67) rfl (hb hby d12_62) rfl (teq hc128_62).1 (by decide) (by decide) ?_
            show Steps p.tables e below (T125.setTop (mkF m 67 #[.val (.ref a1), .val (.int p2), .val (.ref b1), .val (.int (3 : Int32))] [])) _
            refine XS.iloadN X125.here hx rfl (hb hby d12_67) rfl ?_
            show Steps p.tables e below (T125.setTop (mkF m 68 #[.val (.ref a1), .val (.int p2), .val (.ref b1), .val (.int (3 : Int32))] [(.int (3 : Int32))])) _
            refine XS.ifNo X125.here hx rfl (hb hby d12_68) rfl ((if0 _ _).trans (tlt hc129_68).2.2.2) ?_
            show Steps p.tables e below (T125.setTop (mkF m 71 #[.val (.ref a1), .val (.int p2), .val (.ref b1), .val (.int (3 : Int32))] [])) _
            refine XS.aloadN X125.here hx rfl (hb hby d12_71) rfl rfl ?_
            show Steps p.tables e below (T125.setTop (mkF m 72 #[.val (.ref a1), .val (.int p2), .val (.ref b1), .val (.int (3 : Int32))] [(.ref a1)])) _
            refine XS.iconst X125.here hx rfl (hb hby d12_72) ?_
            exact ktx
          obtain ⟨cl131, Ar131, q131, S131, M131, H131, G131⟩ := id f126
          have hin131 : ¬ ((0 : Int32) < 0 ∨ cl131.slots.size ≤ ((0 : Int32)).toNatClampNeg) := inb_of S131 ⟨by decide, by rw [hzz]; decide⟩
          have hat131 : cl131.slots[((0 : Int32)).toNatClampNeg]? = some (.int (1 : Int32)) := Has.at H131 hin131 (by rw [hy]; rfl)
          obtain ⟨cl132, Ar132, q132, S132, M132, H132, G132⟩ := id V125
          have hin132 : ¬ ((0 : Int32) < 0 ∨ cl132.slots.size ≤ ((0 : Int32)).toNatClampNeg) := inb_of S132 ⟨by decide, by decide⟩
          have hat132 : cl132.slots[((0 : Int32)).toNatClampNeg]? = some (.int (1 : Int32)) := Has.at H132 hin132 rfl
          have hc133_77 : (1 : Int32) = (1 : Int32) := (by decide)
          have hc134_84 : (1 : Int32) < (3 : Int32) := (by decide)
          obtain ⟨cl135, Ar135, q135, S135, M135, H135, G135⟩ := id f126
          have hin135 : ¬ ((1 : Int32) < 0 ∨ cl135.slots.size ≤ ((1 : Int32)).toNatClampNeg) := inb_of S135 ⟨by decide, by rw [hzz]; decide⟩
          have hat135 : cl135.slots[((1 : Int32)).toNatClampNeg]? = some (.int (2 : Int32)) := Has.at H135 hin135 (by rw [hy]; rfl)
          obtain ⟨cl136, Ar136, q136, S136, M136, H136, G136⟩ := id V125
          have hin136 : ¬ ((1 : Int32) < 0 ∨ cl136.slots.size ≤ ((1 : Int32)).toNatClampNeg) := inb_of S136 ⟨by decide, by decide⟩
          have hat136 : cl136.slots[((1 : Int32)).toNatClampNeg]? = some (.int (2 : Int32)) := Has.at H136 hin136 rfl
          have hc137_93 : (2 : Int32) = (2 : Int32) := (by decide)
          have go138 : own_go p e below (s₁.setTop (entryFrame m #[(.ref a1), (.int p2)] 4)) (T125.setTop (mkF m 98 #[.val (.ref a1), .val (.int p2), .val (.ref b1), .val (.int (3 : Int32))] [])) := by
            intro ttx ktx
            refine go130 ttx ?_
            show Steps p.tables e below (T125.setTop (mkF m 73 #[.val (.ref a1), .val (.int p2), .val (.ref b1), .val (.int (3 : Int32))] [(.int (0 : Int32)), (.ref a1)])) _
            refine X125.iaload hx (j := (0 : Int32)) (v := (.int (1 : Int32))) (own_hp e125 Ar131.1) (State.isArrayOf_alike hZ.alike Ar131.2.1) Ar131.2.2 hin131 hat131 (g := (mkF m 73 #[.val (.ref a1), .val (.int p2), .val (.ref b1), .val (.int (3 : Int32))] [(.int (0 : Int32)), (.ref a1)])) rfl rfl (hb hby d12_73) _ ?_
            show Steps p.tables e below (T125.setTop (mkF m 74 #[.val (.ref a1), .val (.int p2), .val (.ref b1), .val (.int (3 : Int32))] [(.int (1 : Int32))])) _
            refine XS.aloadN X125.here hx rfl (hb hby d12_74) rfl rfl ?_
            show Steps p.tables e below (T125.setTop (mkF m 75 #[.val (.ref a1), .val (.int p2), .val (.ref b1), .val (.int (3 : Int32))] [(.ref b1), (.int (1 : Int32))])) _
            refine XS.iconst X125.here hx rfl (hb hby d12_75) ?_
            show Steps p.tables e below (T125.setTop (mkF m 76 #[.val (.ref a1), .val (.int p2), .val (.ref b1), .val (.int (3 : Int32))] [(.int (0 : Int32)), (.ref b1), (.int (1 : Int32))])) _
            refine X125.iaload hx (j := (0 : Int32)) (v := (.int (1 : Int32))) (own_hp e125 Ar132.1) (State.isArrayOf_alike hZ.alike Ar132.2.1) Ar132.2.2 hin132 hat132 (g := (mkF m 76 #[.val (.ref a1), .val (.int p2), .val (.ref b1), .val (.int (3 : Int32))] [(.int (0 : Int32)), (.ref b1), (.int (1 : Int32))])) rfl rfl (hb hby d12_76) _ ?_
            show Steps p.tables e below (T125.setTop (mkF m 77 #[.val (.ref a1), .val (.int p2), .val (.ref b1), .val (.int (3 : Int32))] [(.int (1 : Int32)), (.int (1 : Int32))])) _
            refine XS.icmpYes X125.here hx rfl (pc0 := 77) (pc' := 82) rfl (hb hby d12_77) rfl (teq hc133_77).1 (by decide) (by decide) ?_
            show Steps p.tables e below (T125.setTop (mkF m 82 #[.val (.ref a1), .val (.int p2), .val (.ref b1), .val (.int (3 : Int32))] [])) _
            refine XS.iloadN X125.here hx rfl (hb hby d12_82) rfl ?_
            show Steps p.tables e below (T125.setTop (mkF m 83 #[.val (.ref a1), .val (.int p2), .val (.ref b1), .val (.int (3 : Int32))] [(.int (3 : Int32))])) _
            refine XS.iconst X125.here hx rfl (hb hby d12_83) ?_
            show Steps p.tables e below (T125.setTop (mkF m 84 #[.val (.ref a1), .val (.int p2), .val (.ref b1), .val (.int (3 : Int32))] [(.int (1 : Int32)), (.int (3 : Int32))])) _
            refine XS.icmpNo X125.here hx rfl (hb hby d12_84) rfl (tlt hc134_84).2.2.2 ?_
            show Steps p.tables e below (T125.setTop (mkF m 87 #[.val (.ref a1), .val (.int p2), .val (.ref b1), .val (.int (3 : Int32))] [])) _
            refine XS.aloadN X125.here hx rfl (hb hby d12_87) rfl rfl ?_
            show Steps p.tables e below (T125.setTop (mkF m 88 #[.val (.ref a1), .val (.int p2), .val (.ref b1), .val (.int (3 : Int32))] [(.ref a1)])) _
            refine XS.iconst X125.here hx rfl (hb hby d12_88) ?_
            show Steps p.tables e below (T125.setTop (mkF m 89 #[.val (.ref a1), .val (.int p2), .val (.ref b1), .val (.int (3 : Int32))] [(.int (1 : Int32)), (.ref a1)])) _
            refine X125.iaload hx (j := (1 : Int32)) (v := (.int (2 : Int32))) (own_hp e125 Ar135.1) (State.isArrayOf_alike hZ.alike Ar135.2.1) Ar135.2.2 hin135 hat135 (g := (mkF m 89 #[.val (.ref a1), .val (.int p2), .val (.ref b1), .val (.int (3 : Int32))] [(.int (1 : Int32)), (.ref a1)])) rfl rfl (hb hby d12_89) _ ?_
            show Steps p.tables e below (T125.setTop (mkF m 90 #[.val (.ref a1), .val (.int p2), .val (.ref b1), .val (.int (3 : Int32))] [(.int (2 : Int32))])) _
            refine XS.aloadN X125.here hx rfl (hb hby d12_90) rfl rfl ?_
            show Steps p.tables e below (T125.setTop (mkF m 91 #[.val (.ref a1), .val (.int p2), .val (.ref b1), .val (.int (3 : Int32))] [(.ref b1), (.int (2 : Int32))])) _
            refine XS.iconst X125.here hx rfl (hb hby d12_91) ?_
            show Steps p.tables e below (T125.setTop (mkF m 92 #[.val (.ref a1), .val (.int p2), .val (.ref b1), .val (.int (3 : Int32))] [(.int (1 : Int32)), (.ref b1), (.int (2 : Int32))])) _
            refine X125.iaload hx (j := (1 : Int32)) (v := (.int (2 : Int32))) (own_hp e125 Ar136.1) (State.isArrayOf_alike hZ.alike Ar136.2.1) Ar136.2.2 hin136 hat136 (g := (mkF m 92 #[.val (.ref a1), .val (.int p2), .val (.ref b1), .val (.int (3 : Int32))] [(.int (1 : Int32)), (.ref b1), (.int (2 : Int32))])) rfl rfl (hb hby d12_92) _ ?_
            show Steps p.tables e below (T125.setTop (mkF m 93 #[.val (.ref a1), .val (.int p2), .val (.ref b1), .val (.int (3 : Int32))] [(.int (2 : Int32)), (.int (2 : Int32))])) _
            refine XS.icmpYes X125.here hx rfl (pc0 := 93) (pc' := 98) rfl (hb hby d12_93) rfl (teq hc137_93).1 (by decide) (by decide) ?_
            exact ktx
          have hc139_100 : (2 : Int32) < (3 : Int32) := (by decide)
          obtain ⟨cl140, Ar140, q140, S140, M140, H140, G140⟩ := id f126
          have hin140 : ¬ ((2 : Int32) < 0 ∨ cl140.slots.size ≤ ((2 : Int32)).toNatClampNeg) := inb_of S140 ⟨by decide, by rw [hzz]; decide⟩
          have hat140 : cl140.slots[((2 : Int32)).toNatClampNeg]? = some (.int (3 : Int32)) := Has.at H140 hin140 (by rw [hy]; rfl)
          obtain ⟨cl141, Ar141, q141, S141, M141, H141, G141⟩ := id V125
          have hin141 : ¬ ((2 : Int32) < 0 ∨ cl141.slots.size ≤ ((2 : Int32)).toNatClampNeg) := inb_of S141 ⟨by decide, by decide⟩
          have hat141 : cl141.slots[((2 : Int32)).toNatClampNeg]? = some (.int (3 : Int32)) := Has.at H141 hin141 rfl
          have hc142_109 : (3 : Int32) = (3 : Int32) := (by decide)
          have hc143_116 : ¬ ((3 : Int32) < (3 : Int32)) := (by decide)
          have go144 : own_go p e below (s₁.setTop (entryFrame m #[(.ref a1), (.int p2)] 4)) (T125.setTop (mkF m 131 #[.val (.ref a1), .val (.int p2), .val (.ref b1), .val (.int (3 : Int32))] [(.int (1 : Int32))])) := by
            intro ttx ktx
            refine go138 ttx ?_
            show Steps p.tables e below (T125.setTop (mkF m 98 #[.val (.ref a1), .val (.int p2), .val (.ref b1), .val (.int (3 : Int32))] [])) _
            refine XS.iloadN X125.here hx rfl (hb hby d12_98) rfl ?_
            show Steps p.tables e below (T125.setTop (mkF m 99 #[.val (.ref a1), .val (.int p2), .val (.ref b1), .val (.int (3 : Int32))] [(.int (3 : Int32))])) _
            refine XS.iconst X125.here hx rfl (hb hby d12_99) ?_
            show Steps p.tables e below (T125.setTop (mkF m 100 #[.val (.ref a1), .val (.int p2), .val (.ref b1), .val (.int (3 : Int32))] [(.int (2 : Int32)), (.int (3 : Int32))])) _
            refine XS.icmpNo X125.here hx rfl (hb hby d12_100) rfl (tlt hc139_100).2.2.2 ?_
            show Steps p.tables e below (T125.setTop (mkF m 103 #[.val (.ref a1), .val (.int p2), .val (.ref b1), .val (.int (3 : Int32))] [])) _
            refine XS.aloadN X125.here hx rfl (hb hby d12_103) rfl rfl ?_
            show Steps p.tables e below (T125.setTop (mkF m 104 #[.val (.ref a1), .val (.int p2), .val (.ref b1), .val (.int (3 : Int32))] [(.ref a1)])) _
            refine XS.iconst X125.here hx rfl (hb hby d12_104) ?_
            show Steps p.tables e below (T125.setTop (mkF m 105 #[.val (.ref a1), .val (.int p2), .val (.ref b1), .val (.int (3 : Int32))] [(.int (2 : Int32)), (.ref a1)])) _
            refine X125.iaload hx (j := (2 : Int32)) (v := (.int (3 : Int32))) (own_hp e125 Ar140.1) (State.isArrayOf_alike hZ.alike Ar140.2.1) Ar140.2.2 hin140 hat140 (g := (mkF m 105 #[.val (.ref a1), .val (.int p2), .val (.ref b1), .val (.int (3 : Int32))] [(.int (2 : Int32)), (.ref a1)])) rfl rfl (hb hby d12_105) _ ?_
            show Steps p.tables e below (T125.setTop (mkF m 106 #[.val (.ref a1), .val (.int p2), .val (.ref b1), .val (.int (3 : Int32))] [(.int (3 : Int32))])) _
            refine XS.aloadN X125.here hx rfl (hb hby d12_106) rfl rfl ?_
            show Steps p.tables e below (T125.setTop (mkF m 107 #[.val (.ref a1), .val (.int p2), .val (.ref b1), .val (.int (3 : Int32))] [(.ref b1), (.int (3 : Int32))])) _
            refine XS.iconst X125.here hx rfl (hb hby d12_107) ?_
            show Steps p.tables e below (T125.setTop (mkF m 108 #[.val (.ref a1), .val (.int p2), .val (.ref b1), .val (.int (3 : Int32))] [(.int (2 : Int32)), (.ref b1), (.int (3 : Int32))])) _
            refine X125.iaload hx (j := (2 : Int32)) (v := (.int (3 : Int32))) (own_hp e125 Ar141.1) (State.isArrayOf_alike hZ.alike Ar141.2.1) Ar141.2.2 hin141 hat141 (g := (mkF m 108 #[.val (.ref a1), .val (.int p2), .val (.ref b1), .val (.int (3 : Int32))] [(.int (2 : Int32)), (.ref b1), (.int (3 : Int32))])) rfl rfl (hb hby d12_108) _ ?_
            show Steps p.tables e below (T125.setTop (mkF m 109 #[.val (.ref a1), .val (.int p2), .val (.ref b1), .val (.int (3 : Int32))] [(.int (3 : Int32)), (.int (3 : Int32))])) _
            refine XS.icmpYes X125.here hx rfl (pc0 := 109) (pc' := 114) rfl (hb hby d12_109) rfl (teq hc142_109).1 (by decide) (by decide) ?_
            show Steps p.tables e below (T125.setTop (mkF m 114 #[.val (.ref a1), .val (.int p2), .val (.ref b1), .val (.int (3 : Int32))] [])) _
            refine XS.iloadN X125.here hx rfl (hb hby d12_114) rfl ?_
            show Steps p.tables e below (T125.setTop (mkF m 115 #[.val (.ref a1), .val (.int p2), .val (.ref b1), .val (.int (3 : Int32))] [(.int (3 : Int32))])) _
            refine XS.iconst X125.here hx rfl (hb hby d12_115) ?_
            show Steps p.tables e below (T125.setTop (mkF m 116 #[.val (.ref a1), .val (.int p2), .val (.ref b1), .val (.int (3 : Int32))] [(.int (3 : Int32)), (.int (3 : Int32))])) _
            refine XS.icmpYes X125.here hx rfl (pc0 := 116) (pc' := 130) rfl (hb hby d12_116) rfl (flt hc143_116).2.2.2 (by decide) (by decide) ?_
            show Steps p.tables e below (T125.setTop (mkF m 130 #[.val (.ref a1), .val (.int p2), .val (.ref b1), .val (.int (3 : Int32))] [])) _
            refine XS.iconst X125.here hx rfl (hb hby d12_130) ?_
            exact ktx
          obtain ⟨fs, hr, hrun, hended, hW, hsame⟩ := X125.leave (v := some (.int (1 : Int32))) (fun h => by rw [Bd.returns] at h; cases h)
          refine ⟨_, _, go144 _ ?_, hrun, hended, _, _, rfl, ?_, ⟨_, rfl⟩, hW, hsame.mono (by decide) (by decide)⟩
          · exact retN X125 hx (t := .boolean) Bd.returns (by simp) (hb hby d12_131) hr
          · show Q12 Z a1 p2 kb z ys h0 n0 _ T125.heap _
            rw [e125]
            exact ⟨rfl, N125, K125⟩
  · obtain ⟨cl145, Ar145, q145, S145, M145, H145, G145⟩ := id V1
    have hin145 : ¬ ((0 : Int32) < 0 ∨ cl145.slots.size ≤ ((0 : Int32)).toNatClampNeg) := inb_of S145 ⟨by decide, by decide⟩
    obtain ⟨T146, h146, X146, e146, W146, st146⟩ := stI X1 hx hZ e1 Ar145 (j := (0 : Int32)) hin145 (g := (mkF m 15 #[.val (.ref a1), .val (.int p2), .val (.ref b1), .val (.int (0 : Int32))] [(.int (0 : Int32)), (.int (0 : Int32)), (.ref b1)])) rfl rfl (hb hby d12_15)
    have Z146 : n0 ≤ h146.size := Nat.le_trans Z1 (Nat.le_of_eq W146.size.symm)
    have K146 : Keep h0 h146 [] := K1.wr W146 (Or.inr sz_b1)
    have N146 := Fr.snoc X146 N0 g_b1
    have V146 : Arv Z h146 b1 k1 .int (4 : Int32) [(.int (0 : Int32)), (.int (0 : Int32)), (.int (0 : Int32)), (.int (0 : Int32))] (.int (0 : Int32)) := Arv.set Ar145 q145 S145 M145 H145 G145 rfl W146 0 rfl (Nat.le_of_ble_eq_true rfl)
    have go147 : own_go p e below (s₁.setTop (entryFrame m #[(.ref a1), (.int p2)] 4)) (T146.setTop (mkF m 22 #[.val (.ref a1), .val (.int p2), .val (.ref b1), .val (.int (1 : Int32))] [(.int (p2 &&& (2 : Int32)))])) := by
      intro ttx ktx
      refine go3 ttx ?_
      show Steps p.tables e below (T1.setTop (mkF m 9 #[.val (.ref a1), .val (.int p2), .val (.ref b1), .val (.int (0 : Int32))] [(.int (p2 &&& (1 : Int32)))])) _
      refine XS.ifNo X1.here hx rfl (hb hby d12_9) rfl ((if0 _ _).trans (feq hc4_9).1) ?_
      show Steps p.tables e below (T1.setTop (mkF m 12 #[.val (.ref a1), .val (.int p2), .val (.ref b1), .val (.int (0 : Int32))] [])) _
      refine XS.aloadN X1.here hx rfl (hb hby d12_12) rfl rfl ?_
      show Steps p.tables e below (T1.setTop (mkF m 13 #[.val (.ref a1), .val (.int p2), .val (.ref b1), .val (.int (0 : Int32))] [(.ref b1)])) _
      refine XS.iloadN X1.here hx rfl (hb hby d12_13) rfl ?_
      show Steps p.tables e below (T1.setTop (mkF m 14 #[.val (.ref a1), .val (.int p2), .val (.ref b1), .val (.int (0 : Int32))] [(.int (0 : Int32)), (.ref b1)])) _
      refine XS.iconst X1.here hx rfl (hb hby d12_14) ?_
      show Steps p.tables e below (T1.setTop (mkF m 15 #[.val (.ref a1), .val (.int p2), .val (.ref b1), .val (.int (0 : Int32))] [(.int (0 : Int32)), (.int (0 : Int32)), (.ref b1)])) _
      refine st146 _ ?_
      show Steps p.tables e below (T146.setTop (mkF m 16 #[.val (.ref a1), .val (.int p2), .val (.ref b1), .val (.int (0 : Int32))] [])) _
      refine XS.iinc X146.here hx rfl (hb hby d12_16) rfl (l' := #[.val (.ref a1), .val (.int p2), .val (.ref b1), .val (.int (1 : Int32))]) rfl ?_
      show Steps p.tables e below (T146.setTop (mkF m 19 #[.val (.ref a1), .val (.int p2), .val (.ref b1), .val (.int (1 : Int32))] [])) _
      refine XS.iloadN X146.here hx rfl (hb hby d12_19) rfl ?_
      show Steps p.tables e below (T146.setTop (mkF m 20 #[.val (.ref a1), .val (.int p2), .val (.ref b1), .val (.int (1 : Int32))] [(.int p2)])) _
      refine XS.iconst X146.here hx rfl (hb hby d12_20) ?_
      show Steps p.tables e below (T146.setTop (mkF m 21 #[.val (.ref a1), .val (.int p2), .val (.ref b1), .val (.int (1 : Int32))] [(.int (2 : Int32)), (.int p2)])) _
      refine XS.iand X146.here hx rfl (hb hby d12_21) rfl ?_
      exact ktx
    by_cases hc148_22 : (p2 &&& (2 : Int32)) = (0 : Int32)
    · have go149 : own_go p e below (s₁.setTop (entryFrame m #[(.ref a1), (.int p2)] 4)) (T146.setTop (mkF m 35 #[.val (.ref a1), .val (.int p2), .val (.ref b1), .val (.int (1 : Int32))] [(.int (p2 &&& (4 : Int32)))])) := by
        intro ttx ktx
        refine go147 ttx ?_
        show Steps p.tables e below (T146.setTop (mkF m 22 #[.val (.ref a1), .val (.int p2), .val (.ref b1), .val (.int (1 : Int32))] [(.int (p2 &&& (2 : Int32)))])) _
        refine XS.ifYes X146.here hx rfl (pc0 := 22) (pc' := 32) rfl (hb hby d12_22) rfl ((if0 _ _).trans (teq hc148_22).1) (by decide) (by decide) ?_
        show Steps p.tables e below (T146.setTop (mkF m 32 #[.val (.ref a1), .val (.int p2), .val (.ref b1), .val (.int (1 : Int32))] [])) _
        refine XS.iloadN X146.here hx rfl (hb hby d12_32) rfl ?_
        show Steps p.tables e below (T146.setTop (mkF m 33 #[.val (.ref a1), .val (.int p2), .val (.ref b1), .val (.int (1 : Int32))] [(.int p2)])) _
        refine XS.iconst X146.here hx rfl (hb hby d12_33) ?_
        show Steps p.tables e below (T146.setTop (mkF m 34 #[.val (.ref a1), .val (.int p2), .val (.ref b1), .val (.int (1 : Int32))] [(.int (4 : Int32)), (.int p2)])) _
        refine XS.iand X146.here hx rfl (hb hby d12_34) rfl ?_
        exact ktx
      by_cases hc150_35 : (p2 &&& (4 : Int32)) = (0 : Int32)
      · have go151 : own_go p e below (s₁.setTop (entryFrame m #[(.ref a1), (.int p2)] 4)) (T146.setTop (mkF m 49 #[.val (.ref a1), .val (.int p2), .val (.ref b1), .val (.int (1 : Int32))] [(.int (p2 &&& (8 : Int32)))])) := by
          intro ttx ktx
          refine go149 ttx ?_
          show Steps p.tables e below (T146.setTop (mkF m 35 #[.val (.ref a1), .val (.int p2), .val (.ref b1), .val (.int (1 : Int32))] [(.int (p2 &&& (4 : Int32)))])) _
          refine XS.ifYes X146.here hx rfl (pc0 := 35) (pc' := 45) rfl (hb hby d12_35) rfl ((if0 _ _).trans (teq hc150_35).1) (by decide) (by decide) ?_
          show Steps p.tables e below (T146.setTop (mkF m 45 #[.val (.ref a1), .val (.int p2), .val (.ref b1), .val (.int (1 : Int32))] [])) _
          refine XS.iloadN X146.here hx rfl (hb hby d12_45) rfl ?_
          show Steps p.tables e below (T146.setTop (mkF m 46 #[.val (.ref a1), .val (.int p2), .val (.ref b1), .val (.int (1 : Int32))] [(.int p2)])) _
          refine XS.bipush X146.here hx rfl (hb hby d12_46) ?_
          show Steps p.tables e below (T146.setTop (mkF m 48 #[.val (.ref a1), .val (.int p2), .val (.ref b1), .val (.int (1 : Int32))] [(.int (8 : Int32)), (.int p2)])) _
          refine XS.iand X146.here hx rfl (hb hby d12_48) rfl ?_
          exact ktx
        by_cases hc152_49 : (p2 &&& (8 : Int32)) = (0 : Int32)
        · have hy : ys = [(0 : Int32)] := by rw [hys]; simp [own_bs, hc4_9, hc148_22, hc150_35, hc152_49]
          have hzz : z = (1 : Int32) := by rw [hz, hy]; rfl
          have f153 := ((V_a.ext E1).other W146 ne2)
          obtain ⟨cl154, Ar154, -, S154, M154, -, -⟩ := id f153
          have hc155_62 : z = (1 : Int32) := hzz
          have hc156_68 : (0 : Int32) < (1 : Int32) := (by decide)
          obtain ⟨cl157, Ar157, q157, S157, M157, H157, G157⟩ := id f153
          have hin157 : ¬ ((0 : Int32) < 0 ∨ cl157.slots.size ≤ ((0 : Int32)).toNatClampNeg) := inb_of S157 ⟨by decide, by rw [hzz]; decide⟩
          have hat157 : cl157.slots[((0 : Int32)).toNatClampNeg]? = some (.int (0 : Int32)) := Has.at H157 hin157 (by rw [hy]; rfl)
          obtain ⟨cl158, Ar158, q158, S158, M158, H158, G158⟩ := id V146
          have hin158 : ¬ ((0 : Int32) < 0 ∨ cl158.slots.size ≤ ((0 : Int32)).toNatClampNeg) := inb_of S158 ⟨by decide, by decide⟩
          have hat158 : cl158.slots[((0 : Int32)).toNatClampNeg]? = some (.int (0 : Int32)) := Has.at H158 hin158 rfl
          have hc159_77 : (0 : Int32) = (0 : Int32) := (by decide)
          have go160 : own_go p e below (s₁.setTop (entryFrame m #[(.ref a1), (.int p2)] 4)) (T146.setTop (mkF m 82 #[.val (.ref a1), .val (.int p2), .val (.ref b1), .val (.int (1 : Int32))] [])) := by
            intro ttx ktx
            refine go151 ttx ?_
            show Steps p.tables e below (T146.setTop (mkF m 49 #[.val (.ref a1), .val (.int p2), .val (.ref b1), .val (.int (1 : Int32))] [(.int (p2 &&& (8 : Int32)))])) _
            refine XS.ifYes X146.here hx rfl (pc0 := 49) (pc' := 59) rfl (hb hby d12_49) rfl ((if0 _ _).trans (teq hc152_49).1) (by decide) (by decide) ?_
            show Steps p.tables e below (T146.setTop (mkF m 59 #[.val (.ref a1), .val (.int p2), .val (.ref b1), .val (.int (1 : Int32))] [])) _
            refine XS.aloadN X146.here hx rfl (hb hby d12_59) rfl rfl ?_
            show Steps p.tables e below (T146.setTop (mkF m 60 #[.val (.ref a1), .val (.int p2), .val (.ref b1), .val (.int (1 : Int32))] [(.ref a1)])) _
            refine X146.arraylength hx (own_hp e146 Ar154.1) (State.isArrayOf_alike hZ.alike Ar154.2.1) (g := (mkF m 60 #[.val (.ref a1), .val (.int p2), .val (.ref b1), .val (.int (1 : Int32))] [(.ref a1)])) rfl rfl (hb hby d12_60) _ ?_
            rw [len_of S154 M154]
            show Steps p.tables e below (T146.setTop (mkF m 61 #[.val (.ref a1), .val (.int p2), .val (.ref b1), .val (.int (1 : Int32))] [(.int z)])) _
            refine XS.iloadN X146.here hx rfl (hb hby d12_61) rfl ?_
            show Steps p.tables e below (T146.setTop (mkF m 62 #[.val (.ref a1), .val (.int p2), .val (.ref b1), .val (.int (1 : Int32))] [(.int (1 : Int32)), (.int z)])) _
            refine XS.icmpYes X146.here hx rfl (pc0 := 62) (pc' := 67) rfl (hb hby d12_62) rfl (teq hc155_62).1 (by decide) (by decide) ?_
            show Steps p.tables e below (T146.setTop (mkF m 67 #[.val (.ref a1), .val (.int p2), .val (.ref b1), .val (.int (1 : Int32))] [])) _
            refine XS.iloadN X146.here hx rfl (hb hby d12_67) rfl ?_
            show Steps p.tables e below (T146.setTop (mkF m 68 #[.val (.ref a1), .val (.int p2), .val (.ref b1), .val (.int (1 : Int32))] [(.int (1 : Int32))])) _
            refine XS.ifNo X146.here hx rfl (hb hby d12_68) rfl ((if0 _ _).trans (tlt hc156_68).2.2.2) ?_
            show Steps p.tables e below (T146.setTop (mkF m 71 #[.val (.ref a1), .val (.int p2), .val (.ref b1), .val (.int (1 : Int32))] [])) _
            refine XS.aloadN X146.here hx rfl (hb hby d12_71) rfl rfl ?_
            show Steps p.tables e below (T146.setTop (mkF m 72 #[.val (.ref a1), .val (.int p2), .val (.ref b1), .val (.int (1 : Int32))] [(.ref a1)])) _
            refine XS.iconst X146.here hx rfl (hb hby d12_72) ?_
            show Steps p.tables e below (T146.setTop (mkF m 73 #[.val (.ref a1), .val (.int p2), .val (.ref b1), .val (.int (1 : Int32))] [(.int (0 : Int32)), (.ref a1)])) _
            refine X146.iaload hx (j := (0 : Int32)) (v := (.int (0 : Int32))) (own_hp e146 Ar157.1) (State.isArrayOf_alike hZ.alike Ar157.2.1) Ar157.2.2 hin157 hat157 (g := (mkF m 73 #[.val (.ref a1), .val (.int p2), .val (.ref b1), .val (.int (1 : Int32))] [(.int (0 : Int32)), (.ref a1)])) rfl rfl (hb hby d12_73) _ ?_
            show Steps p.tables e below (T146.setTop (mkF m 74 #[.val (.ref a1), .val (.int p2), .val (.ref b1), .val (.int (1 : Int32))] [(.int (0 : Int32))])) _
            refine XS.aloadN X146.here hx rfl (hb hby d12_74) rfl rfl ?_
            show Steps p.tables e below (T146.setTop (mkF m 75 #[.val (.ref a1), .val (.int p2), .val (.ref b1), .val (.int (1 : Int32))] [(.ref b1), (.int (0 : Int32))])) _
            refine XS.iconst X146.here hx rfl (hb hby d12_75) ?_
            show Steps p.tables e below (T146.setTop (mkF m 76 #[.val (.ref a1), .val (.int p2), .val (.ref b1), .val (.int (1 : Int32))] [(.int (0 : Int32)), (.ref b1), (.int (0 : Int32))])) _
            refine X146.iaload hx (j := (0 : Int32)) (v := (.int (0 : Int32))) (own_hp e146 Ar158.1) (State.isArrayOf_alike hZ.alike Ar158.2.1) Ar158.2.2 hin158 hat158 (g := (mkF m 76 #[.val (.ref a1), .val (.int p2), .val (.ref b1), .val (.int (1 : Int32))] [(.int (0 : Int32)), (.ref b1), (.int (0 : Int32))])) rfl rfl (hb hby d12_76) _ ?_
            show Steps p.tables e below (T146.setTop (mkF m 77 #[.val (.ref a1), .val (.int p2), .val (.ref b1), .val (.int (1 : Int32))] [(.int (0 : Int32)), (.int (0 : Int32))])) _
            refine XS.icmpYes X146.here hx rfl (pc0 := 77) (pc' := 82) rfl (hb hby d12_77) rfl (teq hc159_77).1 (by decide) (by decide) ?_
            exact ktx
          have hc161_84 : ¬ ((1 : Int32) < (1 : Int32)) := (by decide)
          have hc162_100 : ¬ ((2 : Int32) < (1 : Int32)) := (by decide)
          have hc163_116 : ¬ ((3 : Int32) < (1 : Int32)) := (by decide)
          have go164 : own_go p e below (s₁.setTop (entryFrame m #[(.ref a1), (.int p2)] 4)) (T146.setTop (mkF m 131 #[.val (.ref a1), .val (.int p2), .val (.ref b1), .val (.int (1 : Int32))] [(.int (1 : Int32))])) := by
            intro ttx ktx
            refine go160 ttx ?_
            show Steps p.tables e below (T146.setTop (mkF m 82 #[.val (.ref a1), .val (.int p2), .val (.ref b1), .val (.int (1 : Int32))] [])) _
            refine XS.iloadN X146.here hx rfl (hb hby d12_82) rfl ?_
            show Steps p.tables e below (T146.setTop (mkF m 83 #[.val (.ref a1), .val (.int p2), .val (.ref b1), .val (.int (1 : Int32))] [(.int (1 : Int32))])) _
            refine XS.iconst X146.here hx rfl (hb hby d12_83) ?_
            show Steps p.tables e below (T146.setTop (mkF m 84 #[.val (.ref a1), .val (.int p2), .val (.ref b1), .val (.int (1 : Int32))] [(.int (1 : Int32)), (.int (1 : Int32))])) _
            refine XS.icmpYes X146.here hx rfl (pc0 := 84) (pc' := 98) rfl (hb hby d12_84) rfl (flt hc161_84).2.2.2 (by decide) (by decide) ?_
            show Steps p.tables e below (T146.setTop (mkF m 98 #[.val (.ref a1), .val (.int p2), .val (.ref b1), .val (.int (1 : Int32))] [])) _
            refine XS.iloadN X146.here hx rfl (hb hby d12_98) rfl ?_
            show Steps p.tables e below (T146.setTop (mkF m 99 #[.val (.ref a1), .val (.int p2), .val (.ref b1), .val (.int (1 : Int32))] [(.int (1 : Int32))])) _
            refine XS.iconst X146.here hx rfl (hb hby d12_99) ?_
            show Steps p.tables e below (T146.setTop (mkF m 100 #[.val (.ref a1), .val (.int p2), .val (.ref b1), .val (.int (1 : Int32))] [(.int (2 : Int32)), (.int (1 : Int32))])) _
            refine XS.icmpYes X146.here hx rfl (pc0 := 100) (pc' := 114) rfl (hb hby d12_100) rfl (flt hc162_100).2.2.2 (by decide) (by decide) ?_
            show Steps p.tables e below (T146.setTop (mkF m 114 #[.val (.ref a1), .val (.int p2), .val (.ref b1), .val (.int (1 : Int32))] [])) _
            refine XS.iloadN X146.here hx rfl (hb hby d12_114) rfl ?_
            show Steps p.tables e below (T146.setTop (mkF m 115 #[.val (.ref a1), .val (.int p2), .val (.ref b1), .val (.int (1 : Int32))] [(.int (1 : Int32))])) _
            refine XS.iconst X146.here hx rfl (hb hby d12_115) ?_
            show Steps p.tables e below (T146.setTop (mkF m 116 #[.val (.ref a1), .val (.int p2), .val (.ref b1), .val (.int (1 : Int32))] [(.int (3 : Int32)), (.int (1 : Int32))])) _
            refine XS.icmpYes X146.here hx rfl (pc0 := 116) (pc' := 130) rfl (hb hby d12_116) rfl (flt hc163_116).2.2.2 (by decide) (by decide) ?_
            show Steps p.tables e below (T146.setTop (mkF m 130 #[.val (.ref a1), .val (.int p2), .val (.ref b1), .val (.int (1 : Int32))] [])) _
            refine XS.iconst X146.here hx rfl (hb hby d12_130) ?_
            exact ktx
          obtain ⟨fs, hr, hrun, hended, hW, hsame⟩ := X146.leave (v := some (.int (1 : Int32))) (fun h => by rw [Bd.returns] at h; cases h)
          refine ⟨_, _, go164 _ ?_, hrun, hended, _, _, rfl, ?_, ⟨_, rfl⟩, hW, hsame.mono (by decide) (by decide)⟩
          · exact retN X146 hx (t := .boolean) Bd.returns (by simp) (hb hby d12_131) hr
          · show Q12 Z a1 p2 kb z ys h0 n0 _ T146.heap _
            rw [e146]
            exact ⟨rfl, N146, K146⟩
        · obtain ⟨cl165, Ar165, q165, S165, M165, H165, G165⟩ := id V146
          have hin165 : ¬ ((1 : Int32) < 0 ∨ cl165.slots.size ≤ ((1 : Int32)).toNatClampNeg) := inb_of S165 ⟨by decide, by decide⟩
          obtain ⟨T166, h166, X166, e166, W166, st166⟩ := stI X146 hx hZ e146 Ar165 (j := (1 : Int32)) hin165 (g := (mkF m 55 #[.val (.ref a1), .val (.int p2), .val (.ref b1), .val (.int (1 : Int32))] [(.int (3 : Int32)), (.int (1 : Int32)), (.ref b1)])) rfl rfl (hb hby d12_55)
          have Z166 : n0 ≤ h166.size := Nat.le_trans Z146 (Nat.le_of_eq W166.size.symm)
          have K166 : Keep h0 h166 [] := K146.wr W166 (Or.inr sz_b1)
          have N166 := Fr.snoc X166 N146 g_b1
          have V166 : Arv Z h166 b1 k1 .int (4 : Int32) [(.int (0 : Int32)), (.int (3 : Int32)), (.int (0 : Int32)), (.int (0 : Int32))] (.int (0 : Int32)) := Arv.set Ar165 q165 S165 M165 H165 G165 rfl W166 1 rfl (Nat.le_of_ble_eq_true rfl)
          have hy : ys = [(0 : Int32), (3 : Int32)] := by rw [hys]; simp [own_bs, hc4_9, hc148_22, hc150_35, hc152_49]
          have hzz : z = (2 : Int32) := by rw [hz, hy]; rfl
          have f167 := (((V_a.ext E1).other W146 ne2).other W166 ne2)
          obtain ⟨cl168, Ar168, -, S168, M168, -, -⟩ := id f167
          have hc169_62 : z = (2 : Int32) := hzz
          have hc170_68 : (0 : Int32) < (2 : Int32) := (by decide)
          have go171 : own_go p e below (s₁.setTop (entryFrame m #[(.ref a1), (.int p2)] 4)) (T166.setTop (mkF m 73 #[.val (.ref a1), .val (.int p2), .val (.ref b1), .val (.int (2 : Int32))] [(.int (0 : Int32)), (.ref a1)])) := by
            intro ttx ktx
            refine go151 ttx ?_
            show Steps p.tables e below (T146.setTop (mkF m 49 #[.val (.ref a1), .val (.int p2), .val (.ref b1), .val (.int (1 : Int32))] [(.int (p2 &&& (8 : Int32)))])) _
            refine XS.ifNo X146.here hx rfl (hb hby d12_49) rfl ((if0 _ _).trans (feq hc152_49).1) ?_
            show Steps p.tables e below (T146.setTop (mkF m 52 #[.val (.ref a1), .val (.int p2), .val (.ref b1), .val (.int (1 : Int32))] [])) _
            refine XS.aloadN X146.here hx rfl (hb hby d12_52) rfl rfl ?_
            show Steps p.tables e below (T146.setTop (mkF m 53 #[.val (.ref a1), .val (.int p2), .val (.ref b1), .val (.int (1 : Int32))] [(.ref b1)])) _
            refine XS.iloadN X146.here hx rfl (hb hby d12_53) rfl ?_
            show Steps p.tables e below (T146.setTop (mkF m 54 #[.val (.ref a1), .val (.int p2), .val (.ref b1), .val (.int (1 : Int32))] [(.int (1 : Int32)), (.ref b1)])) _
            refine XS.iconst X146.here hx rfl (hb hby d12_54) ?_
            show Steps p.tables e below (T146.setTop (mkF m 55 #[.val (.ref a1), .val (.int p2), .val (.ref b1), .val (.int (1 : Int32))] [(.int (3 : Int32)), (.int (1 : Int32)), (.ref b1)])) _
            refine st166 _ ?_
            show Steps p.tables e below (T166.setTop (mkF m 56 #[.val (.ref a1), .val (.int p2), .val (.ref b1), .val (.int (1 : Int32))] [])) _
            refine XS.iinc X166.here hx rfl (hb hby d12_56) rfl (l' := #[.val (.ref a1), .val (.int p2), .val (.ref b1), .val (.int (2 : Int32))]) rfl ?_
            show Steps p.tables e below (T166.setTop (mkF m 59 #[.val (.ref a1), .val (.int p2), .val (.ref b1), .val (.int (2 : Int32))] [])) _
            refine XS.aloadN X166.here hx rfl (hb hby d12_59) rfl rfl ?_
            show Steps p.tables e below (T166.setTop (mkF m 60 #[.val (.ref a1), .val (.int p2), .val (.ref b1), .val (.int (2 : Int32))] [(.ref a1)])) _
            refine X166.arraylength hx (own_hp e166 Ar168.1) (State.isArrayOf_alike hZ.alike Ar168.2.1) (g := (mkF m 60 #[.val (.ref a1), .val (.int p2), .val (.ref b1), .val (.int (2 : Int32))] [(.ref a1)])) rfl rfl (hb hby d12_60) _ ?_
            rw [len_of S168 M168]
            show Steps p.tables e below (T166.setTop (mkF m 61 #[.val (.ref a1), .val (.int p2), .val (.ref b1), .val (.int (2 : Int32))] [(.int z)])) _
            refine XS.iloadN X166.here hx rfl (hb hby d12_61) rfl ?_
            show Steps p.tables e below (T166.setTop (mkF m 62 #[.val (.ref a1), .val (.int p2), .val (.ref b1), .val (.int (2 : Int32))] [(.int (2 : Int32)), (.int z)])) _
            refine XS.icmpYes X166.here hx rfl (pc0 := 62) (pc' := 67) rfl (hb hby d12_62) rfl (teq hc169_62).1 (by decide) (by decide) ?_
            show Steps p.tables e below (T166.setTop (mkF m 67 #[.val (.ref a1), .val (.int p2), .val (.ref b1), .val (.int (2 : Int32))] [])) _
            refine XS.iloadN X166.here hx rfl (hb hby d12_67) rfl ?_
            show Steps p.tables e below (T166.setTop (mkF m 68 #[.val (.ref a1), .val (.int p2), .val (.ref b1), .val (.int (2 : Int32))] [(.int (2 : Int32))])) _
            refine XS.ifNo X166.here hx rfl (hb hby d12_68) rfl ((if0 _ _).trans (tlt hc170_68).2.2.2) ?_
            show Steps p.tables e below (T166.setTop (mkF m 71 #[.val (.ref a1), .val (.int p2), .val (.ref b1), .val (.int (2 : Int32))] [])) _
            refine XS.aloadN X166.here hx rfl (hb hby d12_71) rfl rfl ?_
            show Steps p.tables e below (T166.setTop (mkF m 72 #[.val (.ref a1), .val (.int p2), .val (.ref b1), .val (.int (2 : Int32))] [(.ref a1)])) _
            refine XS.iconst X166.here hx rfl (hb hby d12_72) ?_
            exact ktx
          obtain ⟨cl172, Ar172, q172, S172, M172, H172, G172⟩ := id f167
          have hin172 : ¬ ((0 : Int32) < 0 ∨ cl172.slots.size ≤ ((0 : Int32)).toNatClampNeg) := inb_of S172 ⟨by decide, by rw [hzz]; decide⟩
          have hat172 : cl172.slots[((0 : Int32)).toNatClampNeg]? = some (.int (0 : Int32)) := Has.at H172 hin172 (by rw [hy]; rfl)
          obtain ⟨cl173, Ar173, q173, S173, M173, H173, G173⟩ := id V166
          have hin173 : ¬ ((0 : Int32) < 0 ∨ cl173.slots.size ≤ ((0 : Int32)).toNatClampNeg) := inb_of S173 ⟨by decide, by decide⟩
          have hat173 : cl173.slots[((0 : Int32)).toNatClampNeg]? = some (.int (0 : Int32)) := Has.at H173 hin173 rfl
          have hc174_77 : (0 : Int32) = (0 : Int32) := (by decide)
          have hc175_84 : (1 : Int32) < (2 : Int32) := (by decide)
          obtain ⟨cl176, Ar176, q176, S176, M176, H176, G176⟩ := id f167
          have hin176 : ¬ ((1 : Int32) < 0 ∨ cl176.slots.size ≤ ((1 : Int32)).toNatClampNeg) := inb_of S176 ⟨by decide, by rw [hzz]; decide⟩
          have hat176 : cl176.slots[((1 : Int32)).toNatClampNeg]? = some (.int (3 : Int32)) := Has.at H176 hin176 (by rw [hy]; rfl)
          obtain ⟨cl177, Ar177, q177, S177, M177, H177, G177⟩ := id V166
          have hin177 : ¬ ((1 : Int32) < 0 ∨ cl177.slots.size ≤ ((1 : Int32)).toNatClampNeg) := inb_of S177 ⟨by decide, by decide⟩
          have hat177 : cl177.slots[((1 : Int32)).toNatClampNeg]? = some (.int (3 : Int32)) := Has.at H177 hin177 rfl
          have hc178_93 : (3 : Int32) = (3 : Int32) := (by decide)
          have go179 : own_go p e below (s₁.setTop (entryFrame m #[(.ref a1), (.int p2)] 4)) (T166.setTop (mkF m 98 #[.val (.ref a1), .val (.int p2), .val (.ref b1), .val (.int (2 : Int32))] [])) := by
            intro ttx ktx
            refine go171 ttx ?_
            show Steps p.tables e below (T166.setTop (mkF m 73 #[.val (.ref a1), .val (.int p2), .val (.ref b1), .val (.int (2 : Int32))] [(.int (0 : Int32)), (.ref a1)])) _
            refine X166.iaload hx (j := (0 : Int32)) (v := (.int (0 : Int32))) (own_hp e166 Ar172.1) (State.isArrayOf_alike hZ.alike Ar172.2.1) Ar172.2.2 hin172 hat172 (g := (mkF m 73 #[.val (.ref a1), .val (.int p2), .val (.ref b1), .val (.int (2 : Int32))] [(.int (0 : Int32)), (.ref a1)])) rfl rfl (hb hby d12_73) _ ?_
            show Steps p.tables e below (T166.setTop (mkF m 74 #[.val (.ref a1), .val (.int p2), .val (.ref b1), .val (.int (2 : Int32))] [(.int (0 : Int32))])) _
            refine XS.aloadN X166.here hx rfl (hb hby d12_74) rfl rfl ?_
            show Steps p.tables e below (T166.setTop (mkF m 75 #[.val (.ref a1), .val (.int p2), .val (.ref b1), .val (.int (2 : Int32))] [(.ref b1), (.int (0 : Int32))])) _
            refine XS.iconst X166.here hx rfl (hb hby d12_75) ?_
            show Steps p.tables e below (T166.setTop (mkF m 76 #[.val (.ref a1), .val (.int p2), .val (.ref b1), .val (.int (2 : Int32))] [(.int (0 : Int32)), (.ref b1), (.int (0 : Int32))])) _
            refine X166.iaload hx (j := (0 : Int32)) (v := (.int (0 : Int32))) (own_hp e166 Ar173.1) (State.isArrayOf_alike hZ.alike Ar173.2.1) Ar173.2.2 hin173 hat173 (g := (mkF m 76 #[.val (.ref a1), .val (.int p2), .val (.ref b1), .val (.int (2 : Int32))] [(.int (0 : Int32)), (.ref b1), (.int (0 : Int32))])) rfl rfl (hb hby d12_76) _ ?_
            show Steps p.tables e below (T166.setTop (mkF m 77 #[.val (.ref a1), .val (.int p2), .val (.ref b1), .val (.int (2 : Int32))] [(.int (0 : Int32)), (.int (0 : Int32))])) _
            refine XS.icmpYes X166.here hx rfl (pc0 := 77) (pc' := 82) rfl (hb hby d12_77) rfl (teq hc174_77).1 (by decide) (by decide) ?_
            show Steps p.tables e below (T166.setTop (mkF m 82 #[.val (.ref a1), .val (.int p2), .val (.ref b1), .val (.int (2 : Int32))] [])) _
            refine XS.iloadN X166.here hx rfl (hb hby d12_82) rfl ?_
            show Steps p.tables e below (T166.setTop (mkF m 83 #[.val (.ref a1), .val (.int p2), .val (.ref b1), .val (.int (2 : Int32))] [(.int (2 : Int32))])) _
            refine XS.iconst X166.here hx rfl (hb hby d12_83) ?_
            show Steps p.tables e below (T166.setTop (mkF m 84 #[.val (.ref a1), .val (.int p2), .val (.ref b1), .val (.int (2 : Int32))] [(.int (1 : Int32)), (.int (2 : Int32))])) _
            refine XS.icmpNo X166.here hx rfl (hb hby d12_84) rfl (tlt hc175_84).2.2.2 ?_
            show Steps p.tables e below (T166.setTop (mkF m 87 #[.val (.ref a1), .val (.int p2), .val (.ref b1), .val (.int (2 : Int32))] [])) _
            refine XS.aloadN X166.here hx rfl (hb hby d12_87) rfl rfl ?_
            show Steps p.tables e below (T166.setTop (mkF m 88 #[.val (.ref a1), .val (.int p2), .val (.ref b1), .val (.int (2 : Int32))] [(.ref a1)])) _
            refine XS.iconst X166.here hx rfl (hb hby d12_88) ?_
            show Steps p.tables e below (T166.setTop (mkF m 89 #[.val (.ref a1), .val (.int p2), .val (.ref b1), .val (.int (2 : Int32))] [(.int (1 : Int32)), (.ref a1)])) _
            refine X166.iaload hx (j := (1 : Int32)) (v := (.int (3 : Int32))) (own_hp e166 Ar176.1) (State.isArrayOf_alike hZ.alike Ar176.2.1) Ar176.2.2 hin176 hat176 (g := (mkF m 89 #[.val (.ref a1), .val (.int p2), .val (.ref b1), .val (.int (2 : Int32))] [(.int (1 : Int32)), (.ref a1)])) rfl rfl (hb hby d12_89) _ ?_
            show Steps p.tables e below (T166.setTop (mkF m 90 #[.val (.ref a1), .val (.int p2), .val (.ref b1), .val (.int (2 : Int32))] [(.int (3 : Int32))])) _
            refine XS.aloadN X166.here hx rfl (hb hby d12_90) rfl rfl ?_
            show Steps p.tables e below (T166.setTop (mkF m 91 #[.val (.ref a1), .val (.int p2), .val (.ref b1), .val (.int (2 : Int32))] [(.ref b1), (.int (3 : Int32))])) _
            refine XS.iconst X166.here hx rfl (hb hby d12_91) ?_
            show Steps p.tables e below (T166.setTop (mkF m 92 #[.val (.ref a1), .val (.int p2), .val (.ref b1), .val (.int (2 : Int32))] [(.int (1 : Int32)), (.ref b1), (.int (3 : Int32))])) _
            refine X166.iaload hx (j := (1 : Int32)) (v := (.int (3 : Int32))) (own_hp e166 Ar177.1) (State.isArrayOf_alike hZ.alike Ar177.2.1) Ar177.2.2 hin177 hat177 (g := (mkF m 92 #[.val (.ref a1), .val (.int p2), .val (.ref b1), .val (.int (2 : Int32))] [(.int (1 : Int32)), (.ref b1), (.int (3 : Int32))])) rfl rfl (hb hby d12_92) _ ?_
            show Steps p.tables e below (T166.setTop (mkF m 93 #[.val (.ref a1), .val (.int p2), .val (.ref b1), .val (.int (2 : Int32))] [(.int (3 : Int32)), (.int (3 : Int32))])) _
            refine XS.icmpYes X166.here hx rfl (pc0 := 93) (pc' := 98) rfl (hb hby d12_93) rfl (teq hc178_93).1 (by decide) (by decide) ?_
            exact ktx
          have hc180_100 : ¬ ((2 : Int32) < (2 : Int32)) := (by decide)
          have hc181_116 : ¬ ((3 : Int32) < (2 : Int32)) := (by decide)
          have go182 : own_go p e below (s₁.setTop (entryFrame m #[(.ref a1), (.int p2)] 4)) (T166.setTop (mkF m 131 #[.val (.ref a1), .val (.int p2), .val (.ref b1), .val (.int (2 : Int32))] [(.int (1 : Int32))])) := by
            intro ttx ktx
            refine go179 ttx ?_
            show Steps p.tables e below (T166.setTop (mkF m 98 #[.val (.ref a1), .val (.int p2), .val (.ref b1), .val (.int (2 : Int32))] [])) _
            refine XS.iloadN X166.here hx rfl (hb hby d12_98) rfl ?_
            show Steps p.tables e below (T166.setTop (mkF m 99 #[.val (.ref a1), .val (.int p2), .val (.ref b1), .val (.int (2 : Int32))] [(.int (2 : Int32))])) _
            refine XS.iconst X166.here hx rfl (hb hby d12_99) ?_
            show Steps p.tables e below (T166.setTop (mkF m 100 #[.val (.ref a1), .val (.int p2), .val (.ref b1), .val (.int (2 : Int32))] [(.int (2 : Int32)), (.int (2 : Int32))])) _
            refine XS.icmpYes X166.here hx rfl (pc0 := 100) (pc' := 114) rfl (hb hby d12_100) rfl (flt hc180_100).2.2.2 (by decide) (by decide) ?_
            show Steps p.tables e below (T166.setTop (mkF m 114 #[.val (.ref a1), .val (.int p2), .val (.ref b1), .val (.int (2 : Int32))] [])) _
            refine XS.iloadN X166.here hx rfl (hb hby d12_114) rfl ?_
            show Steps p.tables e below (T166.setTop (mkF m 115 #[.val (.ref a1), .val (.int p2), .val (.ref b1), .val (.int (2 : Int32))] [(.int (2 : Int32))])) _
            refine XS.iconst X166.here hx rfl (hb hby d12_115) ?_
            show Steps p.tables e below (T166.setTop (mkF m 116 #[.val (.ref a1), .val (.int p2), .val (.ref b1), .val (.int (2 : Int32))] [(.int (3 : Int32)), (.int (2 : Int32))])) _
            refine XS.icmpYes X166.here hx rfl (pc0 := 116) (pc' := 130) rfl (hb hby d12_116) rfl (flt hc181_116).2.2.2 (by decide) (by decide) ?_
            show Steps p.tables e below (T166.setTop (mkF m 130 #[.val (.ref a1), .val (.int p2), .val (.ref b1), .val (.int (2 : Int32))] [])) _
            refine XS.iconst X166.here hx rfl (hb hby d12_130) ?_
            exact ktx
          obtain ⟨fs, hr, hrun, hended, hW, hsame⟩ := X166.leave (v := some (.int (1 : Int32))) (fun h => by rw [Bd.returns] at h; cases h)
          refine ⟨_, _, go182 _ ?_, hrun, hended, _, _, rfl, ?_, ⟨_, rfl⟩, hW, hsame.mono (by decide) (by decide)⟩
          · exact retN X166 hx (t := .boolean) Bd.returns (by simp) (hb hby d12_131) hr
          · show Q12 Z a1 p2 kb z ys h0 n0 _ T166.heap _
            rw [e166]
            exact ⟨rfl, N166, K166⟩
      · obtain ⟨cl183, Ar183, q183, S183, M183, H183, G183⟩ := id V146
        have hin183 : ¬ ((1 : Int32) < 0 ∨ cl183.slots.size ≤ ((1 : Int32)).toNatClampNeg) := inb_of S183 ⟨by decide, by decide⟩
        obtain ⟨T184, h184, X184, e184, W184, st184⟩ := stI X146 hx hZ e146 Ar183 (j := (1 : Int32)) hin183 (g := (mkF m 41 #[.val (.ref a1), .val (.int p2), .val (.ref b1), .val (.int (1 : Int32))] [(.int (2 : Int32)), (.int (1 : Int32)), (.ref b1)])) rfl rfl (hb hby d12_41)
        have Z184 : n0 ≤ h184.size := Nat.le_trans Z146 (Nat.le_of_eq W184.size.symm)
        have K184 : Keep h0 h184 [] := K146.wr W184 (Or.inr sz_b1)
        have N184 := Fr.snoc X184 N146 g_b1
        have V184 : Arv Z h184 b1 k1 .int (4 : Int32) [(.int (0 : Int32)), (.int (2 : Int32)), (.int (0 : Int32)), (.int (0 : Int32))] (.int (0 : Int32)) := Arv.set Ar183 q183 S183 M183 H183 G183 rfl W184 1 rfl (Nat.le_of_ble_eq_true rfl)
        have go185 : own_go p e below (s₁.setTop (entryFrame m #[(.ref a1), (.int p2)] 4)) (T184.setTop (mkF m 49 #[.val (.ref a1), .val (.int p2), .val (.ref b1), .val (.int (2 : Int32))] [(.int (p2 &&& (8 : Int32)))])) := by
          intro ttx ktx
          refine go149 ttx ?_
          show Steps p.tables e below (T146.setTop (mkF m 35 #[.val (.ref a1), .val (.int p2), .val (.ref b1), .val (.int (1 : Int32))] [(.int (p2 &&& (4 : Int32)))])) _
          refine XS.ifNo X146.here hx rfl (hb hby d12_35) rfl ((if0 _ _).trans (feq hc150_35).1) ?_
          show Steps p.tables e below (T146.setTop (mkF m 38 #[.val (.ref a1), .val (.int p2), .val (.ref b1), .val (.int (1 : Int32))] [])) _
          refine XS.aloadN X146.here hx rfl (hb hby d12_38) rfl rfl ?_
          show Steps p.tables e below (T146.setTop (mkF m 39 #[.val (.ref a1), .val (.int p2), .val (.ref b1), .val (.int (1 : Int32))] [(.ref b1)])) _
          refine XS.iloadN X146.here hx rfl (hb hby d12_39) rfl ?_
          show Steps p.tables e below (T146.setTop (mkF m 40 #[.val (.ref a1), .val (.int p2), .val (.ref b1), .val (.int (1 : Int32))] [(.int (1 : Int32)), (.ref b1)])) _
          refine XS.iconst X146.here hx rfl (hb hby d12_40) ?_
          show Steps p.tables e below (T146.setTop (mkF m 41 #[.val (.ref a1), .val (.int p2), .val (.ref b1), .val (.int (1 : Int32))] [(.int (2 : Int32)), (.int (1 : Int32)), (.ref b1)])) _
          refine st184 _ ?_
          show Steps p.tables e below (T184.setTop (mkF m 42 #[.val (.ref a1), .val (.int p2), .val (.ref b1), .val (.int (1 : Int32))] [])) _
          refine XS.iinc X184.here hx rfl (hb hby d12_42) rfl (l' := #[.val (.ref a1), .val (.int p2), .val (.ref b1), .val (.int (2 : Int32))]) rfl ?_
          show Steps p.tables e below (T184.setTop (mkF m 45 #[.val (.ref a1), .val (.int p2), .val (.ref b1), .val (.int (2 : Int32))] [])) _
          refine XS.iloadN X184.here hx rfl (hb hby d12_45) rfl ?_
          show Steps p.tables e below (T184.setTop (mkF m 46 #[.val (.ref a1), .val (.int p2), .val (.ref b1), .val (.int (2 : Int32))] [(.int p2)])) _
          refine XS.bipush X184.here hx rfl (hb hby d12_46) ?_
          show Steps p.tables e below (T184.setTop (mkF m 48 #[.val (.ref a1), .val (.int p2), .val (.ref b1), .val (.int (2 : Int32))] [(.int (8 : Int32)), (.int p2)])) _
          refine XS.iand X184.here hx rfl (hb hby d12_48) rfl ?_
          exact ktx
        by_cases hc186_49 : (p2 &&& (8 : Int32)) = (0 : Int32)
        · have hy : ys = [(0 : Int32), (2 : Int32)] := by rw [hys]; simp [own_bs, hc4_9, hc148_22, hc150_35, hc186_49]
          have hzz : z = (2 : Int32) := by rw [hz, hy]; rfl
          have f187 := (((V_a.ext E1).other W146 ne2).other W184 ne2)
          obtain ⟨cl188, Ar188, -, S188, M188, -, -⟩ := id f187
          have hc189_62 : z = (2 : Int32) := hzz
          have hc190_68 : (0 : Int32) < (2 : Int32) := (by decide)
          obtain ⟨cl191, Ar191, q191, S191, M191, H191, G191⟩ := id f187
          have hin191 : ¬ ((0 : Int32) < 0 ∨ cl191.slots.size ≤ ((0 : Int32)).toNatClampNeg) := inb_of S191 ⟨by decide, by rw [hzz]; decide⟩
          have hat191 : cl191.slots[((0 : Int32)).toNatClampNeg]? = some (.int (0 : Int32)) := Has.at H191 hin191 (by rw [hy]; rfl)
          obtain ⟨cl192, Ar192, q192, S192, M192, H192, G192⟩ := id V184
          have hin192 : ¬ ((0 : Int32) < 0 ∨ cl192.slots.size ≤ ((0 : Int32)).toNatClampNeg) := inb_of S192 ⟨by decide, by decide⟩
          have hat192 : cl192.slots[((0 : Int32)).toNatClampNeg]? = some (.int (0 : Int32)) := Has.at H192 hin192 rfl
          have hc193_77 : (0 : Int32) = (0 : Int32) := (by decide)
          have go194 : own_go p e below (s₁.setTop (entryFrame m #[(.ref a1), (.int p2)] 4)) (T184.setTop (mkF m 82 #[.val (.ref a1), .val (.int p2), .val (.ref b1), .val (.int (2 : Int32))] [])) := by
            intro ttx ktx
            refine go185 ttx ?_
            show Steps p.tables e below (T184.setTop (mkF m 49 #[.val (.ref a1), .val (.int p2), .val (.ref b1), .val (.int (2 : Int32))] [(.int (p2 &&& (8 : Int32)))])) _
            refine XS.ifYes X184.here hx rfl (pc0 := 49) (pc' := 59) rfl (hb hby d12_49) rfl ((if0 _ _).trans (teq hc186_49).1) (by decide) (by decide) ?_
            show Steps p.tables e below (T184.setTop (mkF m 59 #[.val (.ref a1), .val (.int p2), .val (.ref b1), .val (.int (2 : Int32))] [])) _
            refine XS.aloadN X184.here hx rfl (hb hby d12_59) rfl rfl ?_
            show Steps p.tables e below (T184.setTop (mkF m 60 #[.val (.ref a1), .val (.int p2), .val (.ref b1), .val (.int (2 : Int32))] [(.ref a1)])) _
            refine X184.arraylength hx (own_hp e184 Ar188.1) (State.isArrayOf_alike hZ.alike Ar188.2.1) (g := (mkF m 60 #[.val (.ref a1), .val (.int p2), .val (.ref b1), .val (.int (2 : Int32))] [(.ref a1)])) rfl rfl (hb hby d12_60) _ ?_
            rw [len_of S188 M188]
            show Steps p.tables e below (T184.setTop (mkF m 61 #[.val (.ref a1), .val (.int p2), .val (.ref b1), .val (.int (2 : Int32))] [(.int z)])) _
            refine XS.iloadN X184.here hx rfl (hb hby d12_61) rfl ?_
            show Steps p.tables e below (T184.setTop (mkF m 62 #[.val (.ref a1), .val (.int p2), .val (.ref b1), .val (.int (2 : Int32))] [(.int (2 : Int32)), (.int z)])) _
            refine XS.icmpYes X184.here hx rfl (pc0 := 62) (pc' := 67) rfl (hb hby d12_62) rfl (teq hc189_62).1 (by decide) (by decide) ?_
            show Steps p.tables e below (T184.setTop (mkF m 67 #[.val (.ref a1), .val (.int p2), .val (.ref b1), .val (.int (2 : Int32))] [])) _
            refine XS.iloadN X184.here hx rfl (hb hby d12_67) rfl ?_
            show Steps p.tables e below (T184.setTop (mkF m 68 #[.val (.ref a1), .val (.int p2), .val (.ref b1), .val (.int (2 : Int32))] [(.int (2 : Int32))])) _
            refine XS.ifNo X184.here hx rfl (hb hby d12_68) rfl ((if0 _ _).trans (tlt hc190_68).2.2.2) ?_
            show Steps p.tables e below (T184.setTop (mkF m 71 #[.val (.ref a1), .val (.int p2), .val (.ref b1), .val (.int (2 : Int32))] [])) _
            refine XS.aloadN X184.here hx rfl (hb hby d12_71) rfl rfl ?_
            show Steps p.tables e below (T184.setTop (mkF m 72 #[.val (.ref a1), .val (.int p2), .val (.ref b1), .val (.int (2 : Int32))] [(.ref a1)])) _
            refine XS.iconst X184.here hx rfl (hb hby d12_72) ?_
            show Steps p.tables e below (T184.setTop (mkF m 73 #[.val (.ref a1), .val (.int p2), .val (.ref b1), .val (.int (2 : Int32))] [(.int (0 : Int32)), (.ref a1)])) _
            refine X184.iaload hx (j := (0 : Int32)) (v := (.int (0 : Int32))) (own_hp e184 Ar191.1) (State.isArrayOf_alike hZ.alike Ar191.2.1) Ar191.2.2 hin191 hat191 (g := (mkF m 73 #[.val (.ref a1), .val (.int p2), .val (.ref b1), .val (.int (2 : Int32))] [(.int (0 : Int32)), (.ref a1)])) rfl rfl (hb hby d12_73) _ ?_
            show Steps p.tables e below (T184.setTop (mkF m 74 #[.val (.ref a1), .val (.int p2), .val (.ref b1), .val (.int (2 : Int32))] [(.int (0 : Int32))])) _
            refine XS.aloadN X184.here hx rfl (hb hby d12_74) rfl rfl ?_
            show Steps p.tables e below (T184.setTop (mkF m 75 #[.val (.ref a1), .val (.int p2), .val (.ref b1), .val (.int (2 : Int32))] [(.ref b1), (.int (0 : Int32))])) _
            refine XS.iconst X184.here hx rfl (hb hby d12_75) ?_
            show Steps p.tables e below (T184.setTop (mkF m 76 #[.val (.ref a1), .val (.int p2), .val (.ref b1), .val (.int (2 : Int32))] [(.int (0 : Int32)), (.ref b1), (.int (0 : Int32))])) _
            refine X184.iaload hx (j := (0 : Int32)) (v := (.int (0 : Int32))) (own_hp e184 Ar192.1) (State.isArrayOf_alike hZ.alike Ar192.2.1) Ar192.2.2 hin192 hat192 (g := (mkF m 76 #[.val (.ref a1), .val (.int p2), .val (.ref b1), .val (.int (2 : Int32))] [(.int (0 : Int32)), (.ref b1), (.int (0 : Int32))])) rfl rfl (hb hby d12_76) _ ?_
            show Steps p.tables e below (T184.setTop (mkF m 77 #[.val (.ref a1), .val (.int p2), .val (.ref b1), .val (.int (2 : Int32))] [(.int (0 : Int32)), (.int (0 : Int32))])) _
            refine XS.icmpYes X184.here hx rfl (pc0 := 77) (pc' := 82) rfl (hb hby d12_77) rfl (teq hc193_77).1 (by decide) (by decide) ?_
            exact ktx
          have hc195_84 : (1 : Int32) < (2 : Int32) := (by decide)
          obtain ⟨cl196, Ar196, q196, S196, M196, H196, G196⟩ := id f187
          have hin196 : ¬ ((1 : Int32) < 0 ∨ cl196.slots.size ≤ ((1 : Int32)).toNatClampNeg) := inb_of S196 ⟨by decide, by rw [hzz]; decide⟩
          have hat196 : cl196.slots[((1 : Int32)).toNatClampNeg]? = some (.int (2 : Int32)) := Has.at H196 hin196 (by rw [hy]; rfl)
          obtain ⟨cl197, Ar197, q197, S197, M197, H197, G197⟩ := id V184
          have hin197 : ¬ ((1 : Int32) < 0 ∨ cl197.slots.size ≤ ((1 : Int32)).toNatClampNeg) := inb_of S197 ⟨by decide, by decide⟩
          have hat197 : cl197.slots[((1 : Int32)).toNatClampNeg]? = some (.int (2 : Int32)) := Has.at H197 hin197 rfl
          have hc198_93 : (2 : Int32) = (2 : Int32) := (by decide)
          have hc199_100 : ¬ ((2 : Int32) < (2 : Int32)) := (by decide)
          have go200 : own_go p e below (s₁.setTop (entryFrame m #[(.ref a1), (.int p2)] 4)) (T184.setTop (mkF m 116 #[.val (.ref a1), .val (.int p2), .val (.ref b1), .val (.int (2 : Int32))] [(.int (3 : Int32)), (.int (2 : Int32))])) := by
            intro ttx ktx
            refine go194 ttx ?_
            show Steps p.tables e below (T184.setTop (mkF m 82 #[.val (.ref a1), .val (.int p2), .val (.ref b1), .val (.int (2 : Int32))] [])) _
            refine XS.iloadN X184.here hx rfl (hb hby d12_82) rfl ?_
            show Steps p.tables e below (T184.setTop (mkF m 83 #[.val (.ref a1), .val (.int p2), .val (.ref b1), .val (.int (2 : Int32))] [(.int (2 : Int32))])) _
            refine XS.iconst X184.here hx rfl (hb hby d12_83) ?_
            show Steps p.tables e below (T184.setTop (mkF m 84 #[.val (.ref a1), .val (.int p2), .val (.ref b1), .val (.int (2 : Int32))] [(.int (1 : Int32)), (.int (2 : Int32))])) _
            refine XS.icmpNo X184.here hx rfl (hb hby d12_84) rfl (tlt hc195_84).2.2.2 ?_
            show Steps p.tables e below (T184.setTop (mkF m 87 #[.val (.ref a1), .val (.int p2), .val (.ref b1), .val (.int (2 : Int32))] [])) _
            refine XS.aloadN X184.here hx rfl (hb hby d12_87) rfl rfl ?_
            show Steps p.tables e below (T184.setTop (mkF m 88 #[.val (.ref a1), .val (.int p2), .val (.ref b1), .val (.int (2 : Int32))] [(.ref a1)])) _
            refine XS.iconst X184.here hx rfl (hb hby d12_88) ?_
            show Steps p.tables e below (T184.setTop (mkF m 89 #[.val (.ref a1), .val (.int p2), .val (.ref b1), .val (.int (2 : Int32))] [(.int (1 : Int32)), (.ref a1)])) _
            refine X184.iaload hx (j := (1 : Int32)) (v := (.int (2 : Int32))) (own_hp e184 Ar196.1) (State.isArrayOf_alike hZ.alike Ar196.2.1) Ar196.2.2 hin196 hat196 (g := (mkF m 89 #[.val (.ref a1), .val (.int p2), .val (.ref b1), .val (.int (2 : Int32))] [(.int (1 : Int32)), (.ref a1)])) rfl rfl (hb hby d12_89) _ ?_
            show Steps p.tables e below (T184.setTop (mkF m 90 #[.val (.ref a1), .val (.int p2), .val (.ref b1), .val (.int (2 : Int32))] [(.int (2 : Int32))])) _
            refine XS.aloadN X184.here hx rfl (hb hby d12_90) rfl rfl ?_
            show Steps p.tables e below (T184.setTop (mkF m 91 #[.val (.ref a1), .val (.int p2), .val (.ref b1), .val (.int (2 : Int32))] [(.ref b1), (.int (2 : Int32))])) _
            refine XS.iconst X184.here hx rfl (hb hby d12_91) ?_
            show Steps p.tables e below (T184.setTop (mkF m 92 #[.val (.ref a1), .val (.int p2), .val (.ref b1), .val (.int (2 : Int32))] [(.int (1 : Int32)), (.ref b1), (.int (2 : Int32))])) _
            refine X184.iaload hx (j := (1 : Int32)) (v := (.int (2 : Int32))) (own_hp e184 Ar197.1) (State.isArrayOf_alike hZ.alike Ar197.2.1) Ar197.2.2 hin197 hat197 (g := (mkF m 92 #[.val (.ref a1), .val (.int p2), .val (.ref b1), .val (.int (2 : Int32))] [(.int (1 : Int32)), (.ref b1), (.int (2 : Int32))])) rfl rfl (hb hby d12_92) _ ?_
            show Steps p.tables e below (T184.setTop (mkF m 93 #[.val (.ref a1), .val (.int p2), .val (.ref b1), .val (.int (2 : Int32))] [(.int (2 : Int32)), (.int (2 : Int32))])) _
            refine XS.icmpYes X184.here hx rfl (pc0 := 93) (pc' := 98) rfl (hb hby d12_93) rfl (teq hc198_93).1 (by decide) (by decide) ?_
            show Steps p.tables e below (T184.setTop (mkF m 98 #[.val (.ref a1), .val (.int p2), .val (.ref b1), .val (.int (2 : Int32))] [])) _
            refine XS.iloadN X184.here hx rfl (hb hby d12_98) rfl ?_
            show Steps p.tables e below (T184.setTop (mkF m 99 #[.val (.ref a1), .val (.int p2), .val (.ref b1), .val (.int (2 : Int32))] [(.int (2 : Int32))])) _
            refine XS.iconst X184.here hx rfl (hb hby d12_99) ?_
            show Steps p.tables e below (T184.setTop (mkF m 100 #[.val (.ref a1), .val (.int p2), .val (.ref b1), .val (.int (2 : Int32))] [(.int (2 : Int32)), (.int (2 : Int32))])) _
            refine XS.icmpYes X184.here hx rfl (pc0 := 100) (pc' := 114) rfl (hb hby d12_100) rfl (flt hc199_100).2.2.2 (by decide) (by decide) ?_
            show Steps p.tables e below (T184.setTop (mkF m 114 #[.val (.ref a1), .val (.int p2), .val (.ref b1), .val (.int (2 : Int32))] [])) _
            refine XS.iloadN X184.here hx rfl (hb hby d12_114) rfl ?_
            show Steps p.tables e below (T184.setTop (mkF m 115 #[.val (.ref a1), .val (.int p2), .val (.ref b1), .val (.int (2 : Int32))] [(.int (2 : Int32))])) _
            refine XS.iconst X184.here hx rfl (hb hby d12_115) ?_
            exact ktx
          have hc201_116 : ¬ ((3 : Int32) < (2 : Int32)) := (by decide)
          have go202 : own_go p e below (s₁.setTop (entryFrame m #[(.ref a1), (.int p2)] 4)) (T184.setTop (mkF m 131 #[.val (.ref a1), .val (.int p2), .val (.ref b1), .val (.int (2 : Int32))] [(.int (1 : Int32))])) := by
            intro ttx ktx
            refine go200 ttx ?_
            show Steps p.tables e below (T184.setTop (mkF m 116 #[.val (.ref a1), .val (.int p2), .val (.ref b1), .val (.int (2 : Int32))] [(.int (3 : Int32)), (.int (2 : Int32))])) _
            refine XS.icmpYes X184.here hx rfl (pc0 := 116) (pc' := 130) rfl (hb hby d12_116) rfl (flt hc201_116).2.2.2 (by decide) (by decide) ?_
            show Steps p.tables e below (T184.setTop (mkF m 130 #[.val (.ref a1), .val (.int p2), .val (.ref b1), .val (.int (2 : Int32))] [])) _
            refine XS.iconst X184.here hx rfl (hb hby d12_130) ?_
            exact ktx
          obtain ⟨fs, hr, hrun, hended, hW, hsame⟩ := X184.leave (v := some (.int (1 : Int32))) (fun h => by rw [Bd.returns] at h; cases h)
          refine ⟨_, _, go202 _ ?_, hrun, hended, _, _, rfl, ?_, ⟨_, rfl⟩, hW, hsame.mono (by decide) (by decide)⟩
          · exact retN X184 hx (t := .boolean) Bd.returns (by simp) (hb hby d12_131) hr
          · show Q12 Z a1 p2 kb z ys h0 n0 _ T184.heap _
            rw [e184]
            exact ⟨rfl, N184, K184⟩
        · obtain ⟨cl203, Ar203, q203, S203, M203, H203, G203⟩ := id V184
          have hin203 : ¬ ((2 : Int32) < 0 ∨ cl203.slots.size ≤ ((2 : Int32)).toNatClampNeg) := inb_of S203 ⟨by decide, by decide⟩
          obtain ⟨T204, h204, X204, e204, W204, st204⟩ := stI X184 hx hZ e184 Ar203 (j := (2 : Int32)) hin203 (g := (mkF m 55 #[.val (.ref a1), .val (.int p2), .val (.ref b1), .val (.int (2 : Int32))] [(.int (3 : Int32)), (.int (2 : Int32)), (.ref b1)])) rfl rfl (hb hby d12_55)
          have Z204 : n0 ≤ h204.size := Nat.le_trans Z184 (Nat.le_of_eq W204.size.symm)
          have K204 : Keep h0 h204 [] := K184.wr W204 (Or.inr sz_b1)
          have N204 := Fr.snoc X204 N184 g_b1
          have V204 : Arv Z h204 b1 k1 .int (4 : Int32) [(.int (0 : Int32)), (.int (2 : Int32)), (.int (3 : Int32)), (.int (0 : Int32))] (.int (0 : Int32)) := Arv.set Ar203 q203 S203 M203 H203 G203 rfl W204 2 rfl (Nat.le_of_ble_eq_true rfl)
          have hy : ys = [(0 : Int32), (2 : Int32), (3 : Int32)] := by rw [hys]; simp [own_bs, hc4_9, hc148_22, hc150_35, hc186_49]
          have hzz : z = (3 : Int32) := by rw [hz, hy]; rfl
          have f205 := ((((V_a.ext E1).other W146 ne2).other W184 ne2).other W204 ne2)
          obtain ⟨cl206, Ar206, -, S206, M206, -, -⟩ := id f205
          have hc207_62 : z = (3 : Int32) := hzz
          have hc208_68 : (0 : Int32) < (3 : Int32) := (by decide)
          have go209 : own_go p e below (s₁.setTop (entryFrame m #[(.ref a1), (.int p2)] 4)) (T204.setTop (mkF m 73 #[.val (.ref a1), .val (.int p2), .val (.ref b1), .val (.int (3 : Int32))] [(.int (0 : Int32)), (.ref a1)])) := by
            intro ttx ktx
            refine go185 ttx ?_
            show Steps p.tables e below (T184.setTop (mkF m 49 #[.val (.ref a1), .val (.int p2), .val (.ref b1), .val (.int (2 : Int32))] [(.int (p2 &&& (8 : Int32)))])) _
            refine XS.ifNo X184.here hx rfl (hb hby d12_49) rfl ((if0 _ _).trans (feq hc186_49).1) ?_
            show Steps p.tables e below (T184.setTop (mkF m 52 #[.val (.ref a1), .val (.int p2), .val (.ref b1), .val (.int (2 : Int32))] [])) _
            refine XS.aloadN X184.here hx rfl (hb hby d12_52) rfl rfl ?_
            show Steps p.tables e below (T184.setTop (mkF m 53 #[.val (.ref a1), .val (.int p2), .val (.ref b1), .val (.int (2 : Int32))] [(.ref b1)])) _
            refine XS.iloadN X184.here hx rfl (hb hby d12_53) rfl ?_
            show Steps p.tables e below (T184.setTop (mkF m 54 #[.val (.ref a1), .val (.int p2), .val (.ref b1), .val (.int (2 : Int32))] [(.int (2 : Int32)), (.ref b1)])) _
            refine XS.iconst X184.here hx rfl (hb hby d12_54) ?_
            show Steps p.tables e below (T184.setTop (mkF m 55 #[.val (.ref a1), .val (.int p2), .val (.ref b1), .val (.int (2 : Int32))] [(.int (3 : Int32)), (.int (2 : Int32)), (.ref b1)])) _
            refine st204 _ ?_
            show Steps p.tables e below (T204.setTop (mkF m 56 #[.val (.ref a1), .val (.int p2), .val (.ref b1), .val (.int (2 : Int32))] [])) _
            refine XS.iinc X204.here hx rfl (hb hby d12_56) rfl (l' := #[.val (.ref a1), .val (.int p2), .val (.ref b1), .val (.int (3 : Int32))]) rfl ?_
            show Steps p.tables e below (T204.setTop (mkF m 59 #[.val (.ref a1), .val (.int p2), .val (.ref b1), .val (.int (3 : Int32))] [])) _
            refine XS.aloadN X204.here hx rfl (hb hby d12_59) rfl rfl ?_
            show Steps p.tables e below (T204.setTop (mkF m 60 #[.val (.ref a1), .val (.int p2), .val (.ref b1), .val (.int (3 : Int32))] [(.ref a1)])) _
            refine X204.arraylength hx (own_hp e204 Ar206.1) (State.isArrayOf_alike hZ.alike Ar206.2.1) (g := (mkF m 60 #[.val (.ref a1), .val (.int p2), .val (.ref b1), .val (.int (3 : Int32))] [(.ref a1)])) rfl rfl (hb hby d12_60) _ ?_
            rw [len_of S206 M206]
            show Steps p.tables e below (T204.setTop (mkF m 61 #[.val (.ref a1), .val (.int p2), .val (.ref b1), .val (.int (3 : Int32))] [(.int z)])) _
            refine XS.iloadN X204.here hx rfl (hb hby d12_61) rfl ?_
            show Steps p.tables e below (T204.setTop (mkF m 62 #[.val (.ref a1), .val (.int p2), .val (.ref b1), .val (.int (3 : Int32))] [(.int (3 : Int32)), (.int z)])) _
            refine XS.icmpYes X204.here hx rfl (pc0 := 62) (pc' := 67) rfl (hb hby d12_62) rfl (teq hc207_62).1 (by decide) (by decide) ?_
            show Steps p.tables e below (T204.setTop (mkF m 67 #[.val (.ref a1), .val (.int p2), .val (.ref b1), .val (.int (3 : Int32))] [])) _
            refine XS.iloadN X204.here hx rfl (hb hby d12_67) rfl ?_
            show Steps p.tables e below (T204.setTop (mkF m 68 #[.val (.ref a1), .val (.int p2), .val (.ref b1), .val (.int (3 : Int32))] [(.int (3 : Int32))])) _
            refine XS.ifNo X204.here hx rfl (hb hby d12_68) rfl ((if0 _ _).trans (tlt hc208_68).2.2.2) ?_
            show Steps p.tables e below (T204.setTop (mkF m 71 #[.val (.ref a1), .val (.int p2), .val (.ref b1), .val (.int (3 : Int32))] [])) _
            refine XS.aloadN X204.here hx rfl (hb hby d12_71) rfl rfl ?_
            show Steps p.tables e below (T204.setTop (mkF m 72 #[.val (.ref a1), .val (.int p2), .val (.ref b1), .val (.int (3 : Int32))] [(.ref a1)])) _
            refine XS.iconst X204.here hx rfl (hb hby d12_72) ?_
            exact ktx
          obtain ⟨cl210, Ar210, q210, S210, M210, H210, G210⟩ := id f205
          have hin210 : ¬ ((0 : Int32) < 0 ∨ cl210.slots.size ≤ ((0 : Int32)).toNatClampNeg) := inb_of S210 ⟨by decide, by rw [hzz]; decide⟩
          have hat210 : cl210.slots[((0 : Int32)).toNatClampNeg]? = some (.int (0 : Int32)) := Has.at H210 hin210 (by rw [hy]; rfl)
          obtain ⟨cl211, Ar211, q211, S211, M211, H211, G211⟩ := id V204
          have hin211 : ¬ ((0 : Int32) < 0 ∨ cl211.slots.size ≤ ((0 : Int32)).toNatClampNeg) := inb_of S211 ⟨by decide, by decide⟩
          have hat211 : cl211.slots[((0 : Int32)).toNatClampNeg]? = some (.int (0 : Int32)) := Has.at H211 hin211 rfl
          have hc212_77 : (0 : Int32) = (0 : Int32) := (by decide)
          have hc213_84 : (1 : Int32) < (3 : Int32) := (by decide)
          obtain ⟨cl214, Ar214, q214, S214, M214, H214, G214⟩ := id f205
          have hin214 : ¬ ((1 : Int32) < 0 ∨ cl214.slots.size ≤ ((1 : Int32)).toNatClampNeg) := inb_of S214 ⟨by decide, by rw [hzz]; decide⟩
          have hat214 : cl214.slots[((1 : Int32)).toNatClampNeg]? = some (.int (2 : Int32)) := Has.at H214 hin214 (by rw [hy]; rfl)
          obtain ⟨cl215, Ar215, q215, S215, M215, H215, G215⟩ := id V204
          have hin215 : ¬ ((1 : Int32) < 0 ∨ cl215.slots.size ≤ ((1 : Int32)).toNatClampNeg) := inb_of S215 ⟨by decide, by decide⟩
          have hat215 : cl215.slots[((1 : Int32)).toNatClampNeg]? = some (.int (2 : Int32)) := Has.at H215 hin215 rfl
          have hc216_93 : (2 : Int32) = (2 : Int32) := (by decide)
          have go217 : own_go p e below (s₁.setTop (entryFrame m #[(.ref a1), (.int p2)] 4)) (T204.setTop (mkF m 98 #[.val (.ref a1), .val (.int p2), .val (.ref b1), .val (.int (3 : Int32))] [])) := by
            intro ttx ktx
            refine go209 ttx ?_
            show Steps p.tables e below (T204.setTop (mkF m 73 #[.val (.ref a1), .val (.int p2), .val (.ref b1), .val (.int (3 : Int32))] [(.int (0 : Int32)), (.ref a1)])) _
            refine X204.iaload hx (j := (0 : Int32)) (v := (.int (0 : Int32))) (own_hp e204 Ar210.1) (State.isArrayOf_alike hZ.alike Ar210.2.1) Ar210.2.2 hin210 hat210 (g := (mkF m 73 #[.val (.ref a1), .val (.int p2), .val (.ref b1), .val (.int (3 : Int32))] [(.int (0 : Int32)), (.ref a1)])) rfl rfl (hb hby d12_73) _ ?_
            show Steps p.tables e below (T204.setTop (mkF m 74 #[.val (.ref a1), .val (.int p2), .val (.ref b1), .val (.int (3 : Int32))] [(.int (0 : Int32))])) _
            refine XS.aloadN X204.here hx rfl (hb hby d12_74) rfl rfl ?_
            show Steps p.tables e below (T204.setTop (mkF m 75 #[.val (.ref a1), .val (.int p2), .val (.ref b1), .val (.int (3 : Int32))] [(.ref b1), (.int (0 : Int32))])) _
            refine XS.iconst X204.here hx rfl (hb hby d12_75) ?_
            show Steps p.tables e below (T204.setTop (mkF m 76 #[.val (.ref a1), .val (.int p2), .val (.ref b1), .val (.int (3 : Int32))] [(.int (0 : Int32)), (.ref b1), (.int (0 : Int32))])) _
            refine X204.iaload hx (j := (0 : Int32)) (v := (.int (0 : Int32))) (own_hp e204 Ar211.1) (State.isArrayOf_alike hZ.alike Ar211.2.1) Ar211.2.2 hin211 hat211 (g := (mkF m 76 #[.val (.ref a1), .val (.int p2), .val (.ref b1), .val (.int (3 : Int32))] [(.int (0 : Int32)), (.ref b1), (.int (0 : Int32))])) rfl rfl (hb hby d12_76) _ ?_
            show Steps p.tables e below (T204.setTop (mkF m 77 #[.val (.ref a1), .val (.int p2), .val (.ref b1), .val (.int (3 : Int32))] [(.int (0 : Int32)), (.int (0 : Int32))])) _
            refine XS.icmpYes X204.here hx rfl (pc0 := 77) (pc' := 82) rfl (hb hby d12_77) rfl (teq hc212_77).1 (by decide) (by decide) ?_
            show Steps p.tables e below (T204.setTop (mkF m 82 #[.val (.ref a1), .val (.int p2), .val (.ref b1), .val (.int (3 : Int32))] [])) _
            refine XS.iloadN X204.here hx rfl (hb hby d12_82) rfl ?_
            show Steps p.tables e below (T204.setTop (mkF m 83 #[.val (.ref a1), .val (.int p2), .val (.ref b1), .val (.int (3 : Int32))] [(.int (3 : Int32))])) _
            refine XS.iconst X204.here hx rfl (hb hby d12_83) ?_
            show Steps p.tables e below (T204.setTop (mkF m 84 #[.val (.ref a1), .val (.int p2), .val (.ref b1), .val (.int (3 : Int32))] [(.int (1 : Int32)), (.int (3 : Int32))])) _
            refine XS.icmpNo X204.here hx rfl (hb hby d12_84) rfl (tlt hc213_84).2.2.2 ?_
            show Steps p.tables e below (T204.setTop (mkF m 87 #[.val (.ref a1), .val (.int p2), .val (.ref b1), .val (.int (3 : Int32))] [])) _
            refine XS.aloadN X204.here hx rfl (hb hby d12_87) rfl rfl ?_
            show Steps p.tables e below (T204.setTop (mkF m 88 #[.val (.ref a1), .val (.int p2), .val (.ref b1), .val (.int (3 : Int32))] [(.ref a1)])) _
            refine XS.iconst X204.here hx rfl (hb hby d12_88) ?_
            show Steps p.tables e below (T204.setTop (mkF m 89 #[.val (.ref a1), .val (.int p2), .val (.ref b1), .val (.int (3 : Int32))] [(.int (1 : Int32)), (.ref a1)])) _
            refine X204.iaload hx (j := (1 : Int32)) (v := (.int (2 : Int32))) (own_hp e204 Ar214.1) (State.isArrayOf_alike hZ.alike Ar214.2.1) Ar214.2.2 hin214 hat214 (g := (mkF m 89 #[.val (.ref a1), .val (.int p2), .val (.ref b1), .val (.int (3 : Int32))] [(.int (1 : Int32)), (.ref a1)])) rfl rfl (hb hby d12_89) _ ?_
            show Steps p.tables e below (T204.setTop (mkF m 90 #[.val (.ref a1), .val (.int p2), .val (.ref b1), .val (.int (3 : Int32))] [(.int (2 : Int32))])) _
            refine XS.aloadN X204.here hx rfl (hb hby d12_90) rfl rfl ?_
            show Steps p.tables e below (T204.setTop (mkF m 91 #[.val (.ref a1), .val (.int p2), .val (.ref b1), .val (.int (3 : Int32))] [(.ref b1), (.int (2 : Int32))])) _
            refine XS.iconst X204.here hx rfl (hb hby d12_91) ?_
            show Steps p.tables e below (T204.setTop (mkF m 92 #[.val (.ref a1), .val (.int p2), .val (.ref b1), .val (.int (3 : Int32))] [(.int (1 : Int32)), (.ref b1), (.int (2 : Int32))])) _
            refine X204.iaload hx (j := (1 : Int32)) (v := (.int (2 : Int32))) (own_hp e204 Ar215.1) (State.isArrayOf_alike hZ.alike Ar215.2.1) Ar215.2.2 hin215 hat215 (g := (mkF m 92 #[.val (.ref a1), .val (.int p2), .val (.ref b1), .val (.int (3 : Int32))] [(.int (1 : Int32)), (.ref b1), (.int (2 : Int32))])) rfl rfl (hb hby d12_92) _ ?_
            show Steps p.tables e below (T204.setTop (mkF m 93 #[.val (.ref a1), .val (.int p2), .val (.ref b1), .val (.int (3 : Int32))] [(.int (2 : Int32)), (.int (2 : Int32))])) _
            refine XS.icmpYes X204.here hx rfl (pc0 := 93) (pc' := 98) rfl (hb hby d12_93) rfl (teq hc216_93).1 (by decide) (by decide) ?_
            exact ktx
          have hc218_100 : (2 : Int32) < (3 : Int32) := (by decide)
          obtain ⟨cl219, Ar219, q219, S219, M219, H219, G219⟩ := id f205
          have hin219 : ¬ ((2 : Int32) < 0 ∨ cl219.slots.size ≤ ((2 : Int32)).toNatClampNeg) := inb_of S219 ⟨by decide, by rw [hzz]; decide⟩
          have hat219 : cl219.slots[((2 : Int32)).toNatClampNeg]? = some (.int (3 : Int32)) := Has.at H219 hin219 (by rw [hy]; rfl)
          obtain ⟨cl220, Ar220, q220, S220, M220, H220, G220⟩ := id V204
          have hin220 : ¬ ((2 : Int32) < 0 ∨ cl220.slots.size ≤ ((2 : Int32)).toNatClampNeg) := inb_of S220 ⟨by decide, by decide⟩
          have hat220 : cl220.slots[((2 : Int32)).toNatClampNeg]? = some (.int (3 : Int32)) := Has.at H220 hin220 rfl
          have hc221_109 : (3 : Int32) = (3 : Int32) := (by decide)
          have hc222_116 : ¬ ((3 : Int32) < (3 : Int32)) := (by decide)
          have go223 : own_go p e below (s₁.setTop (entryFrame m #[(.ref a1), (.int p2)] 4)) (T204.setTop (mkF m 131 #[.val (.ref a1), .val (.int p2), .val (.ref b1), .val (.int (3 : Int32))] [(.int (1 : Int32))])) := by
            intro ttx ktx
            refine go217 ttx ?_
            show Steps p.tables e below (T204.setTop (mkF m 98 #[.val (.ref a1), .val (.int p2), .val (.ref b1), .val (.int (3 : Int32))] [])) _
            refine XS.iloadN X204.here hx rfl (hb hby d12_98) rfl ?_
            show Steps p.tables e below (T204.setTop (mkF m 99 #[.val (.ref a1), .val (.int p2), .val (.ref b1), .val (.int (3 : Int32))] [(.int (3 : Int32))])) _
            refine XS.iconst X204.here hx rfl (hb hby d12_99) ?_
            show Steps p.tables e below (T204.setTop (mkF m 100 #[.val (.ref a1), .val (.int p2), .val (.ref b1), .val (.int (3 : Int32))] [(.int (2 : Int32)), (.int (3 : Int32))])) _
            refine XS.icmpNo X204.here hx rfl (hb hby d12_100) rfl (tlt hc218_100).2.2.2 ?_
            show Steps p.tables e below (T204.setTop (mkF m 103 #[.val (.ref a1), .val (.int p2), .val (.ref b1), .val (.int (3 : Int32))] [])) _
            refine XS.aloadN X204.here hx rfl (hb hby d12_103) rfl rfl ?_
            show Steps p.tables e below (T204.setTop (mkF m 104 #[.val (.ref a1), .val (.int p2), .val (.ref b1), .val (.int (3 : Int32))] [(.ref a1)])) _
            refine XS.iconst X204.here hx rfl (hb hby d12_104) ?_
            show Steps p.tables e below (T204.setTop (mkF m 105 #[.val (.ref a1), .val (.int p2), .val (.ref b1), .val (.int (3 : Int32))] [(.int (2 : Int32)), (.ref a1)])) _
            refine X204.iaload hx (j := (2 : Int32)) (v := (.int (3 : Int32))) (own_hp e204 Ar219.1) (State.isArrayOf_alike hZ.alike Ar219.2.1) Ar219.2.2 hin219 hat219 (g := (mkF m 105 #[.val (.ref a1), .val (.int p2), .val (.ref b1), .val (.int (3 : Int32))] [(.int (2 : Int32)), (.ref a1)])) rfl rfl (hb hby d12_105) _ ?_
            show Steps p.tables e below (T204.setTop (mkF m 106 #[.val (.ref a1), .val (.int p2), .val (.ref b1), .val (.int (3 : Int32))] [(.int (3 : Int32))])) _
            refine XS.aloadN X204.here hx rfl (hb hby d12_106) rfl rfl ?_
            show Steps p.tables e below (T204.setTop (mkF m 107 #[.val (.ref a1), .val (.int p2), .val (.ref b1), .val (.int (3 : Int32))] [(.ref b1), (.int (3 : Int32))])) _
            refine XS.iconst X204.here hx rfl (hb hby d12_107) ?_
            show Steps p.tables e below (T204.setTop (mkF m 108 #[.val (.ref a1), .val (.int p2), .val (.ref b1), .val (.int (3 : Int32))] [(.int (2 : Int32)), (.ref b1), (.int (3 : Int32))])) _
            refine X204.iaload hx (j := (2 : Int32)) (v := (.int (3 : Int32))) (own_hp e204 Ar220.1) (State.isArrayOf_alike hZ.alike Ar220.2.1) Ar220.2.2 hin220 hat220 (g := (mkF m 108 #[.val (.ref a1), .val (.int p2), .val (.ref b1), .val (.int (3 : Int32))] [(.int (2 : Int32)), (.ref b1), (.int (3 : Int32))])) rfl rfl (hb hby d12_108) _ ?_
            show Steps p.tables e below (T204.setTop (mkF m 109 #[.val (.ref a1), .val (.int p2), .val (.ref b1), .val (.int (3 : Int32))] [(.int (3 : Int32)), (.int (3 : Int32))])) _
            refine XS.icmpYes X204.here hx rfl (pc0 := 109) (pc' := 114) rfl (hb hby d12_109) rfl (teq hc221_109).1 (by decide) (by decide) ?_
            show Steps p.tables e below (T204.setTop (mkF m 114 #[.val (.ref a1), .val (.int p2), .val (.ref b1), .val (.int (3 : Int32))] [])) _
            refine XS.iloadN X204.here hx rfl (hb hby d12_114) rfl ?_
            show Steps p.tables e below (T204.setTop (mkF m 115 #[.val (.ref a1), .val (.int p2), .val (.ref b1), .val (.int (3 : Int32))] [(.int (3 : Int32))])) _
            refine XS.iconst X204.here hx rfl (hb hby d12_115) ?_
            show Steps p.tables e below (T204.setTop (mkF m 116 #[.val (.ref a1), .val (.int p2), .val (.ref b1), .val (.int (3 : Int32))] [(.int (3 : Int32)), (.int (3 : Int32))])) _
            refine XS.icmpYes X204.here hx rfl (pc0 := 116) (pc' := 130) rfl (hb hby d12_116) rfl (flt hc222_116).2.2.2 (by decide) (by decide) ?_
            show Steps p.tables e below (T204.setTop (mkF m 130 #[.val (.ref a1), .val (.int p2), .val (.ref b1), .val (.int (3 : Int32))] [])) _
            refine XS.iconst X204.here hx rfl (hb hby d12_130) ?_
            exact ktx
          obtain ⟨fs, hr, hrun, hended, hW, hsame⟩ := X204.leave (v := some (.int (1 : Int32))) (fun h => by rw [Bd.returns] at h; cases h)
          refine ⟨_, _, go223 _ ?_, hrun, hended, _, _, rfl, ?_, ⟨_, rfl⟩, hW, hsame.mono (by decide) (by decide)⟩
          · exact retN X204 hx (t := .boolean) Bd.returns (by simp) (hb hby d12_131) hr
          · show Q12 Z a1 p2 kb z ys h0 n0 _ T204.heap _
            rw [e204]
            exact ⟨rfl, N204, K204⟩
    · obtain ⟨cl224, Ar224, q224, S224, M224, H224, G224⟩ := id V146
      have hin224 : ¬ ((1 : Int32) < 0 ∨ cl224.slots.size ≤ ((1 : Int32)).toNatClampNeg) := inb_of S224 ⟨by decide, by decide⟩
      obtain ⟨T225, h225, X225, e225, W225, st225⟩ := stI X146 hx hZ e146 Ar224 (j := (1 : Int32)) hin224 (g := (mkF m 28 #[.val (.ref a1), .val (.int p2), .val (.ref b1), .val (.int (1 : Int32))] [(.int (1 : Int32)), (.int (1 : Int32)), (.ref b1)])) rfl rfl (hb hby d12_28)
      have Z225 : n0 ≤ h225.size := Nat.le_trans Z146 (Nat.le_of_eq W225.size.symm)
      have K225 : Keep h0 h225 [] := K146.wr W225 (Or.inr sz_b1)
      have N225 := Fr.snoc X225 N146 g_b1
      have V225 : Arv Z h225 b1 k1 .int (4 : Int32) [(.int (0 : Int32)), (.int (1 : Int32)), (.int (0 : Int32)), (.int (0 : Int32))] (.int (0 : Int32)) := Arv.set Ar224 q224 S224 M224 H224 G224 rfl W225 1 rfl (Nat.le_of_ble_eq_true rfl)
      have go226 : own_go p e below (s₁.setTop (entryFrame m #[(.ref a1), (.int p2)] 4)) (T225.setTop (mkF m 35 #[.val (.ref a1), .val (.int p2), .val (.ref b1), .val (.int (2 : Int32))] [(.int (p2 &&& (4 : Int32)))])) := by
        intro ttx ktx
        refine go147 ttx ?_
        show Steps p.tables e below (T146.setTop (mkF m 22 #[.val (.ref a1), .val (.int p2), .val (.ref b1), .val (.int (1 : Int32))] [(.int (p2 &&& (2 : Int32)))])) _
        refine XS.ifNo X146.here hx rfl (hb hby d12_22) rfl ((if0 _ _).trans (feq hc148_22).1) ?_
        show Steps p.tables e below (T146.setTop (mkF m 25 #[.val (.ref a1), .val (.int p2), .val (.ref b1), .val (.int (1 : Int32))] [])) _
        refine XS.aloadN X146.here hx rfl (hb hby d12_25) rfl rfl ?_
        show Steps p.tables e below (T146.setTop (mkF m 26 #[.val (.ref a1), .val (.int p2), .val (.ref b1), .val (.int (1 : Int32))] [(.ref b1)])) _
        refine XS.iloadN X146.here hx rfl (hb hby d12_26) rfl ?_
        show Steps p.tables e below (T146.setTop (mkF m 27 #[.val (.ref a1), .val (.int p2), .val (.ref b1), .val (.int (1 : Int32))] [(.int (1 : Int32)), (.ref b1)])) _
        refine XS.iconst X146.here hx rfl (hb hby d12_27) ?_
        show Steps p.tables e below (T146.setTop (mkF m 28 #[.val (.ref a1), .val (.int p2), .val (.ref b1), .val (.int (1 : Int32))] [(.int (1 : Int32)), (.int (1 : Int32)), (.ref b1)])) _
        refine st225 _ ?_
        show Steps p.tables e below (T225.setTop (mkF m 29 #[.val (.ref a1), .val (.int p2), .val (.ref b1), .val (.int (1 : Int32))] [])) _
        refine XS.iinc X225.here hx rfl (hb hby d12_29) rfl (l' := #[.val (.ref a1), .val (.int p2), .val (.ref b1), .val (.int (2 : Int32))]) rfl ?_
        show Steps p.tables e below (T225.setTop (mkF m 32 #[.val (.ref a1), .val (.int p2), .val (.ref b1), .val (.int (2 : Int32))] [])) _
        refine XS.iloadN X225.here hx rfl (hb hby d12_32) rfl ?_
        show Steps p.tables e below (T225.setTop (mkF m 33 #[.val (.ref a1), .val (.int p2), .val (.ref b1), .val (.int (2 : Int32))] [(.int p2)])) _
        refine XS.iconst X225.here hx rfl (hb hby d12_33) ?_
        show Steps p.tables e below (T225.setTop (mkF m 34 #[.val (.ref a1), .val (.int p2), .val (.ref b1), .val (.int (2 : Int32))] [(.int (4 : Int32)), (.int p2)])) _
        refine XS.iand X225.here hx rfl (hb hby d12_34) rfl ?_
        exact ktx
      by_cases hc227_35 : (p2 &&& (4 : Int32)) = (0 : Int32)
      · have go228 : own_go p e below (s₁.setTop (entryFrame m #[(.ref a1), (.int p2)] 4)) (T225.setTop (mkF m 49 #[.val (.ref a1), .val (.int p2), .val (.ref b1), .val (.int (2 : Int32))] [(.int (p2 &&& (8 : Int32)))])) := by
          intro ttx ktx
          refine go226 ttx ?_
          show Steps p.tables e below (T225.setTop (mkF m 35 #[.val (.ref a1), .val (.int p2), .val (.ref b1), .val (.int (2 : Int32))] [(.int (p2 &&& (4 : Int32)))])) _
          refine XS.ifYes X225.here hx rfl (pc0 := 35) (pc' := 45) rfl (hb hby d12_35) rfl ((if0 _ _).trans (teq hc227_35).1) (by decide) (by decide) ?_
          show Steps p.tables e below (T225.setTop (mkF m 45 #[.val (.ref a1), .val (.int p2), .val (.ref b1), .val (.int (2 : Int32))] [])) _
          refine XS.iloadN X225.here hx rfl (hb hby d12_45) rfl ?_
          show Steps p.tables e below (T225.setTop (mkF m 46 #[.val (.ref a1), .val (.int p2), .val (.ref b1), .val (.int (2 : Int32))] [(.int p2)])) _
          refine XS.bipush X225.here hx rfl (hb hby d12_46) ?_
          show Steps p.tables e below (T225.setTop (mkF m 48 #[.val (.ref a1), .val (.int p2), .val (.ref b1), .val (.int (2 : Int32))] [(.int (8 : Int32)), (.int p2)])) _
          refine XS.iand X225.here hx rfl (hb hby d12_48) rfl ?_
          exact ktx
        by_cases hc229_49 : (p2 &&& (8 : Int32)) = (0 : Int32)
        · have hy : ys = [(0 : Int32), (1 : Int32)] := by rw [hys]; simp [own_bs, hc4_9, hc148_22, hc227_35, hc229_49]
          have hzz : z = (2 : Int32) := by rw [hz, hy]; rfl
          have f230 := (((V_a.ext E1).other W146 ne2).other W225 ne2)
          obtain ⟨cl231, Ar231, -, S231, M231, -, -⟩ := id f230
          have hc232_62 : z = (2 : Int32) := hzz
          have hc233_68 : (0 : Int32) < (2 : Int32) := (by decide)
          obtain ⟨cl234, Ar234, q234, S234, M234, H234, G234⟩ := id f230
          have hin234 : ¬ ((0 : Int32) < 0 ∨ cl234.slots.size ≤ ((0 : Int32)).toNatClampNeg) := inb_of S234 ⟨by decide, by rw [hzz]; decide⟩
          have hat234 : cl234.slots[((0 : Int32)).toNatClampNeg]? = some (.int (0 : Int32)) := Has.at H234 hin234 (by rw [hy]; rfl)
          obtain ⟨cl235, Ar235, q235, S235, M235, H235, G235⟩ := id V225
          have hin235 : ¬ ((0 : Int32) < 0 ∨ cl235.slots.size ≤ ((0 : Int32)).toNatClampNeg) := inb_of S235 ⟨by decide, by decide⟩
          have hat235 : cl235.slots[((0 : Int32)).toNatClampNeg]? = some (.int (0 : Int32)) := Has.at H235 hin235 rfl
          have hc236_77 : (0 : Int32) = (0 : Int32) := (by decide)
          have go237 : own_go p e below (s₁.setTop (entryFrame m #[(.ref a1), (.int p2)] 4)) (T225.setTop (mkF m 82 #[.val (.ref a1), .val (.int p2), .val (.ref b1), .val (.int (2 : Int32))] [])) := by
            intro ttx ktx
            refine go228 ttx ?_
            show Steps p.tables e below (T225.setTop (mkF m 49 #[.val (.ref a1), .val (.int p2), .val (.ref b1), .val (.int (2 : Int32))] [(.int (p2 &&& (8 : Int32)))])) _
            refine XS.ifYes X225.here hx rfl (pc0 := 49) (pc' := 59) rfl (hb hby d12_49) rfl ((if0 _ _).trans (teq hc229_49).1) (by decide) (by decide) ?_
            show Steps p.tables e below (T225.setTop (mkF m 59 #[.val (.ref a1), .val (.int p2), .val (.ref b1), .val (.int (2 : Int32))] [])) _
            refine XS.aloadN X225.here hx rfl (hb hby d12_59) rfl rfl ?_
            show Steps p.tables e below (T225.setTop (mkF m 60 #[.val (.ref a1), .val (.int p2), .val (.ref b1), .val (.int (2 : Int32))] [(.ref a1)])) _
            refine X225.arraylength hx (own_hp e225 Ar231.1) (State.isArrayOf_alike hZ.alike Ar231.2.1) (g := (mkF m 60 #[.val (.ref a1), .val (.int p2), .val (.ref b1), .val (.int (2 : Int32))] [(.ref a1)])) rfl rfl (hb hby d12_60) _ ?_
            rw [len_of S231 M231]
            show Steps p.tables e below (T225.setTop (mkF m 61 #[.val (.ref a1), .val (.int p2), .val (.ref b1), .val (.int (2 : Int32))] [(.int z)])) _
            refine XS.iloadN X225.here hx rfl (hb hby d12_61) rfl ?_
            show Steps p.tables e below (T225.setTop (mkF m 62 #[.val (.ref a1), .val (.int p2), .val (.ref b1), .val (.int (2 : Int32))] [(.int (2 : Int32)), (.int z)])) _
            refine XS.icmpYes X225.here hx rfl (pc0 := 62) (pc' := 67) rfl (hb hby d12_62) rfl (teq hc232_62).1 (by decide) (by decide) ?_
            show Steps p.tables e below (T225.setTop (mkF m 67 #[.val (.ref a1), .val (.int p2), .val (.ref b1), .val (.int (2 : Int32))] [])) _
            refine XS.iloadN X225.here hx rfl (hb hby d12_67) rfl ?_
            show Steps p.tables e below (T225.setTop (mkF m 68 #[.val (.ref a1), .val (.int p2), .val (.ref b1), .val (.int (2 : Int32))] [(.int (2 : Int32))])) _
            refine XS.ifNo X225.here hx rfl (hb hby d12_68) rfl ((if0 _ _).trans (tlt hc233_68).2.2.2) ?_
            show Steps p.tables e below (T225.setTop (mkF m 71 #[.val (.ref a1), .val (.int p2), .val (.ref b1), .val (.int (2 : Int32))] [])) _
            refine XS.aloadN X225.here hx rfl (hb hby d12_71) rfl rfl ?_
            show Steps p.tables e below (T225.setTop (mkF m 72 #[.val (.ref a1), .val (.int p2), .val (.ref b1), .val (.int (2 : Int32))] [(.ref a1)])) _
            refine XS.iconst X225.here hx rfl (hb hby d12_72) ?_
            show Steps p.tables e below (T225.setTop (mkF m 73 #[.val (.ref a1), .val (.int p2), .val (.ref b1), .val (.int (2 : Int32))] [(.int (0 : Int32)), (.ref a1)])) _
            refine X225.iaload hx (j := (0 : Int32)) (v := (.int (0 : Int32))) (own_hp e225 Ar234.1) (State.isArrayOf_alike hZ.alike Ar234.2.1) Ar234.2.2 hin234 hat234 (g := (mkF m 73 #[.val (.ref a1), .val (.int p2), .val (.ref b1), .val (.int (2 : Int32))] [(.int (0 : Int32)), (.ref a1)])) rfl rfl (hb hby d12_73) _ ?_
            show Steps p.tables e below (T225.setTop (mkF m 74 #[.val (.ref a1), .val (.int p2), .val (.ref b1), .val (.int (2 : Int32))] [(.int (0 : Int32))])) _
            refine XS.aloadN X225.here hx rfl (hb hby d12_74) rfl rfl ?_
            show Steps p.tables e below (T225.setTop (mkF m 75 #[.val (.ref a1), .val (.int p2), .val (.ref b1), .val (.int (2 : Int32))] [(.ref b1), (.int (0 : Int32))])) _
            refine XS.iconst X225.here hx rfl (hb hby d12_75) ?_
            show Steps p.tables e below (T225.setTop (mkF m 76 #[.val (.ref a1), .val (.int p2), .val (.ref b1), .val (.int (2 : Int32))] [(.int (0 : Int32)), (.ref b1), (.int (0 : Int32))])) _
            refine X225.iaload hx (j := (0 : Int32)) (v := (.int (0 : Int32))) (own_hp e225 Ar235.1) (State.isArrayOf_alike hZ.alike Ar235.2.1) Ar235.2.2 hin235 hat235 (g := (mkF m 76 #[.val (.ref a1), .val (.int p2), .val (.ref b1), .val (.int (2 : Int32))] [(.int (0 : Int32)), (.ref b1), (.int (0 : Int32))])) rfl rfl (hb hby d12_76) _ ?_
            show Steps p.tables e below (T225.setTop (mkF m 77 #[.val (.ref a1), .val (.int p2), .val (.ref b1), .val (.int (2 : Int32))] [(.int (0 : Int32)), (.int (0 : Int32))])) _
            refine XS.icmpYes X225.here hx rfl (pc0 := 77) (pc' := 82) rfl (hb hby d12_77) rfl (teq hc236_77).1 (by decide) (by decide) ?_
            exact ktx
          have hc238_84 : (1 : Int32) < (2 : Int32) := (by decide)
          obtain ⟨cl239, Ar239, q239, S239, M239, H239, G239⟩ := id f230
          have hin239 : ¬ ((1 : Int32) < 0 ∨ cl239.slots.size ≤ ((1 : Int32)).toNatClampNeg) := inb_of S239 ⟨by decide, by rw [hzz]; decide⟩
          have hat239 : cl239.slots[((1 : Int32)).toNatClampNeg]? = some (.int (1 : Int32)) := Has.at H239 hin239 (by rw [hy]; rfl)
          obtain ⟨cl240, Ar240, q240, S240, M240, H240, G240⟩ := id V225
          have hin240 : ¬ ((1 : Int32) < 0 ∨ cl240.slots.size ≤ ((1 : Int32)).toNatClampNeg) := inb_of S240 ⟨by decide, by decide⟩
          have hat240 : cl240.slots[((1 : Int32)).toNatClampNeg]? = some (.int (1 : Int32)) := Has.at H240 hin240 rfl
          have hc241_93 : (1 : Int32) = (1 : Int32) := (by decide)
          have hc242_100 : ¬ ((2 : Int32) < (2 : Int32)) := (by decide)
          have go243 : own_go p e below (s₁.setTop (entryFrame m #[(.ref a1), (.int p2)] 4)) (T225.setTop (mkF m 116 #[.val (.ref a1), .val (.int p2), .val (.ref b1), .val (.int (2 : Int32))] [(.int (3 : Int32)), (.int (2 : Int32))])) := by
            intro ttx ktx
            refine go237 ttx ?_
            show Steps p.tables e below (T225.setTop (mkF m 82 #[.val (.ref a1), .val (.int p2), .val (.ref b1), .val (.int (2 : Int32))] [])) _
            refine XS.iloadN X225.here hx rfl (hb hby d12_82) rfl ?_
            show Steps p.tables e below (T225.setTop (mkF m 83 #[.val (.ref a1), .val (.int p2), .val (.ref b1), .val (.int (2 : Int32))] [(.int (2 : Int32))])) _
            refine XS.iconst X225.here hx rfl (hb hby d12_83) ?_
            show Steps p.tables e below (T225.setTop (mkF m 84 #[.val (.ref a1), .val (.int p2), .val (.ref b1), .val (.int (2 : Int32))] [(.int (1 : Int32)), (.int (2 : Int32))])) _
            refine XS.icmpNo X225.here hx rfl (hb hby d12_84) rfl (tlt hc238_84).2.2.2 ?_
            show Steps p.tables e below (T225.setTop (mkF m 87 #[.val (.ref a1), .val (.int p2), .val (.ref b1), .val (.int (2 : Int32))] [])) _
            refine XS.aloadN X225.here hx rfl (hb hby d12_87) rfl rfl ?_
            show Steps p.tables e below (T225.setTop (mkF m 88 #[.val (.ref a1), .val (.int p2), .val (.ref b1), .val (.int (2 : Int32))] [(.ref a1)])) _
            refine XS.iconst X225.here hx rfl (hb hby d12_88) ?_
            show Steps p.tables e below (T225.setTop (mkF m 89 #[.val (.ref a1), .val (.int p2), .val (.ref b1), .val (.int (2 : Int32))] [(.int (1 : Int32)), (.ref a1)])) _
            refine X225.iaload hx (j := (1 : Int32)) (v := (.int (1 : Int32))) (own_hp e225 Ar239.1) (State.isArrayOf_alike hZ.alike Ar239.2.1) Ar239.2.2 hin239 hat239 (g := (mkF m 89 #[.val (.ref a1), .val (.int p2), .val (.ref b1), .val (.int (2 : Int32))] [(.int (1 : Int32)), (.ref a1)])) rfl rfl (hb hby d12_89) _ ?_
            show Steps p.tables e below (T225.setTop (mkF m 90 #[.val (.ref a1), .val (.int p2), .val (.ref b1), .val (.int (2 : Int32))] [(.int (1 : Int32))])) _
            refine XS.aloadN X225.here hx rfl (hb hby d12_90) rfl rfl ?_
            show Steps p.tables e below (T225.setTop (mkF m 91 #[.val (.ref a1), .val (.int p2), .val (.ref b1), .val (.int (2 : Int32))] [(.ref b1), (.int (1 : Int32))])) _
            refine XS.iconst X225.here hx rfl (hb hby d12_91) ?_
            show Steps p.tables e below (T225.setTop (mkF m 92 #[.val (.ref a1), .val (.int p2), .val (.ref b1), .val (.int (2 : Int32))] [(.int (1 : Int32)), (.ref b1), (.int (1 : Int32))])) _
            refine X225.iaload hx (j := (1 : Int32)) (v := (.int (1 : Int32))) (own_hp e225 Ar240.1) (State.isArrayOf_alike hZ.alike Ar240.2.1) Ar240.2.2 hin240 hat240 (g := (mkF m 92 #[.val (.ref a1), .val (.int p2), .val (.ref b1), .val (.int (2 : Int32))] [(.int (1 : Int32)), (.ref b1), (.int (1 : Int32))])) rfl rfl (hb hby d12_92) _ ?_
            show Steps p.tables e below (T225.setTop (mkF m 93 #[.val (.ref a1), .val (.int p2), .val (.ref b1), .val (.int (2 : Int32))] [(.int (1 : Int32)), (.int (1 : Int32))])) _
            refine XS.icmpYes X225.here hx rfl (pc0 := 93) (pc' := 98) rfl (hb hby d12_93) rfl (teq hc241_93).1 (by decide) (by decide) ?_
            show Steps p.tables e below (T225.setTop (mkF m 98 #[.val (.ref a1), .val (.int p2), .val (.ref b1), .val (.int (2 : Int32))] [])) _
            refine XS.iloadN X225.here hx rfl (hb hby d12_98) rfl ?_
            show Steps p.tables e below (T225.setTop (mkF m 99 #[.val (.ref a1), .val (.int p2), .val (.ref b1), .val (.int (2 : Int32))] [(.int (2 : Int32))])) _
            refine XS.iconst X225.here hx rfl (hb hby d12_99) ?_
            show Steps p.tables e below (T225.setTop (mkF m 100 #[.val (.ref a1), .val (.int p2), .val (.ref b1), .val (.int (2 : Int32))] [(.int (2 : Int32)), (.int (2 : Int32))])) _
            refine XS.icmpYes X225.here hx rfl (pc0 := 100) (pc' := 114) rfl (hb hby d12_100) rfl (flt hc242_100).2.2.2 (by decide) (by decide) ?_
            show Steps p.tables e below (T225.setTop (mkF m 114 #[.val (.ref a1), .val (.int p2), .val (.ref b1), .val (.int (2 : Int32))] [])) _
            refine XS.iloadN X225.here hx rfl (hb hby d12_114) rfl ?_
            show Steps p.tables e below (T225.setTop (mkF m 115 #[.val (.ref a1), .val (.int p2), .val (.ref b1), .val (.int (2 : Int32))] [(.int (2 : Int32))])) _
            refine XS.iconst X225.here hx rfl (hb hby d12_115) ?_
            exact ktx
          have hc244_116 : ¬ ((3 : Int32) < (2 : Int32)) := (by decide)
          have go245 : own_go p e below (s₁.setTop (entryFrame m #[(.ref a1), (.int p2)] 4)) (T225.setTop (mkF m 131 #[.val (.ref a1), .val (.int p2), .val (.ref b1), .val (.int (2 : Int32))] [(.int (1 : Int32))])) := by
            intro ttx ktx
            refine go243 ttx ?_
            show Steps p.tables e below (T225.setTop (mkF m 116 #[.val (.ref a1), .val (.int p2), .val (.ref b1), .val (.int (2 : Int32))] [(.int (3 : Int32)), (.int (2 : Int32))])) _
            refine XS.icmpYes X225.here hx rfl (pc0 := 116) (pc' := 130) rfl (hb hby d12_116) rfl (flt hc244_116).2.2.2 (by decide) (by decide) ?_
            show Steps p.tables e below (T225.setTop (mkF m 130 #[.val (.ref a1), .val (.int p2), .val (.ref b1), .val (.int (2 : Int32))] [])) _
            refine XS.iconst X225.here hx rfl (hb hby d12_130) ?_
            exact ktx
          obtain ⟨fs, hr, hrun, hended, hW, hsame⟩ := X225.leave (v := some (.int (1 : Int32))) (fun h => by rw [Bd.returns] at h; cases h)
          refine ⟨_, _, go245 _ ?_, hrun, hended, _, _, rfl, ?_, ⟨_, rfl⟩, hW, hsame.mono (by decide) (by decide)⟩
          · exact retN X225 hx (t := .boolean) Bd.returns (by simp) (hb hby d12_131) hr
          · show Q12 Z a1 p2 kb z ys h0 n0 _ T225.heap _
            rw [e225]
            exact ⟨rfl, N225, K225⟩
        · obtain ⟨cl246, Ar246, q246, S246, M246, H246, G246⟩ := id V225
          have hin246 : ¬ ((2 : Int32) < 0 ∨ cl246.slots.size ≤ ((2 : Int32)).toNatClampNeg) := inb_of S246 ⟨by decide, by decide⟩
          obtain ⟨T247, h247, X247, e247, W247, st247⟩ := stI X225 hx hZ e225 Ar246 (j := (2 : Int32)) hin246 (g := (mkF m 55 #[.val (.ref a1), .val (.int p2), .val (.ref b1), .val (.int (2 : Int32))] [(.int (3 : Int32)), (.int (2 : Int32)), (.ref b1)])) rfl rfl (hb hby d12_55)
          have Z247 : n0 ≤ h247.size := Nat.le_trans Z225 (Nat.le_of_eq W247.size.symm)
          have K247 : Keep h0 h247 [] := K225.wr W247 (Or.inr sz_b1)
          have N247 := Fr.snoc X247 N225 g_b1
          have V247 : Arv Z h247 b1 k1 .int (4 : Int32) [(.int (0 : Int32)), (.int (1 : Int32)), (.int (3 : Int32)), (.int (0 : Int32))] (.int (0 : Int32)) := Arv.set Ar246 q246 S246 M246 H246 G246 rfl W247 2 rfl (Nat.le_of_ble_eq_true rfl)
          have hy : ys = [(0 : Int32), (1 : Int32), (3 : Int32)] := by rw [hys]; simp [own_bs, hc4_9, hc148_22, hc227_35, hc229_49]
          have hzz : z = (3 : Int32) := by rw [hz, hy]; rfl
          have f248 := ((((V_a.ext E1).other W146 ne2).other W225 ne2).other W247 ne2)
          obtain ⟨cl249, Ar249, -, S249, M249, -, -⟩ := id f248
          have hc250_62 : z = (3 : Int32) := hzz
          have hc251_68 : (0 : Int32) < (3 : Int32) := (by decide)
          have go252 : own_go p e below (s₁.setTop (entryFrame m #[(.ref a1), (.int p2)] 4)) (T247.setTop (mkF m 73 #[.val (.ref a1), .val (.int p2), .val (.ref b1), .val (.int (3 : Int32))] [(.int (0 : Int32)), (.ref a1)])) := by
            intro ttx ktx
            refine go228 ttx ?_
            show Steps p.tables e below (T225.setTop (mkF m 49 #[.val (.ref a1), .val (.int p2), .val (.ref b1), .val (.int (2 : Int32))] [(.int (p2 &&& (8 : Int32)))])) _
            refine XS.ifNo X225.here hx rfl (hb hby d12_49) rfl ((if0 _ _).trans (feq hc229_49).1) ?_
            show Steps p.tables e below (T225.setTop (mkF m 52 #[.val (.ref a1), .val (.int p2), .val (.ref b1), .val (.int (2 : Int32))] [])) _
            refine XS.aloadN X225.here hx rfl (hb hby d12_52) rfl rfl ?_
            show Steps p.tables e below (T225.setTop (mkF m 53 #[.val (.ref a1), .val (.int p2), .val (.ref b1), .val (.int (2 : Int32))] [(.ref b1)])) _
            refine XS.iloadN X225.here hx rfl (hb hby d12_53) rfl ?_
            show Steps p.tables e below (T225.setTop (mkF m 54 #[.val (.ref a1), .val (.int p2), .val (.ref b1), .val (.int (2 : Int32))] [(.int (2 : Int32)), (.ref b1)])) _
            refine XS.iconst X225.here hx rfl (hb hby d12_54) ?_
            show Steps p.tables e below (T225.setTop (mkF m 55 #[.val (.ref a1), .val (.int p2), .val (.ref b1), .val (.int (2 : Int32))] [(.int (3 : Int32)), (.int (2 : Int32)), (.ref b1)])) _
            refine st247 _ ?_
            show Steps p.tables e below (T247.setTop (mkF m 56 #[.val (.ref a1), .val (.int p2), .val (.ref b1), .val (.int (2 : Int32))] [])) _
            refine XS.iinc X247.here hx rfl (hb hby d12_56) rfl (l' := #[.val (.ref a1), .val (.int p2), .val (.ref b1), .val (.int (3 : Int32))]) rfl ?_
            show Steps p.tables e below (T247.setTop (mkF m 59 #[.val (.ref a1), .val (.int p2), .val (.ref b1), .val (.int (3 : Int32))] [])) _
            refine XS.aloadN X247.here hx rfl (hb hby d12_59) rfl rfl ?_
            show Steps p.tables e below (T247.setTop (mkF m 60 #[.val (.ref a1), .val (.int p2), .val (.ref b1), .val (.int (3 : Int32))] [(.ref a1)])) _
            refine X247.arraylength hx (own_hp e247 Ar249.1) (State.isArrayOf_alike hZ.alike Ar249.2.1) (g := (mkF m 60 #[.val (.ref a1), .val (.int p2), .val (.ref b1), .val (.int (3 : Int32))] [(.ref a1)])) rfl rfl (hb hby d12_60) _ ?_
            rw [len_of S249 M249]
            show Steps p.tables e below (T247.setTop (mkF m 61 #[.val (.ref a1), .val (.int p2), .val (.ref b1), .val (.int (3 : Int32))] [(.int z)])) _
            refine XS.iloadN X247.here hx rfl (hb hby d12_61) rfl ?_
            show Steps p.tables e below (T247.setTop (mkF m 62 #[.val (.ref a1), .val (.int p2), .val (.ref b1), .val (.int (3 : Int32))] [(.int (3 : Int32)), (.int z)])) _
            refine XS.icmpYes X247.here hx rfl (pc0 := 62) (pc' := 67) rfl (hb hby d12_62) rfl (teq hc250_62).1 (by decide) (by decide) ?_
            show Steps p.tables e below (T247.setTop (mkF m 67 #[.val (.ref a1), .val (.int p2), .val (.ref b1), .val (.int (3 : Int32))] [])) _
            refine XS.iloadN X247.here hx rfl (hb hby d12_67) rfl ?_
            show Steps p.tables e below (T247.setTop (mkF m 68 #[.val (.ref a1), .val (.int p2), .val (.ref b1), .val (.int (3 : Int32))] [(.int (3 : Int32))])) _
            refine XS.ifNo X247.here hx rfl (hb hby d12_68) rfl ((if0 _ _).trans (tlt hc251_68).2.2.2) ?_
            show Steps p.tables e below (T247.setTop (mkF m 71 #[.val (.ref a1), .val (.int p2), .val (.ref b1), .val (.int (3 : Int32))] [])) _
            refine XS.aloadN X247.here hx rfl (hb hby d12_71) rfl rfl ?_
            show Steps p.tables e below (T247.setTop (mkF m 72 #[.val (.ref a1), .val (.int p2), .val (.ref b1), .val (.int (3 : Int32))] [(.ref a1)])) _
            refine XS.iconst X247.here hx rfl (hb hby d12_72) ?_
            exact ktx
          obtain ⟨cl253, Ar253, q253, S253, M253, H253, G253⟩ := id f248
          have hin253 : ¬ ((0 : Int32) < 0 ∨ cl253.slots.size ≤ ((0 : Int32)).toNatClampNeg) := inb_of S253 ⟨by decide, by rw [hzz]; decide⟩
          have hat253 : cl253.slots[((0 : Int32)).toNatClampNeg]? = some (.int (0 : Int32)) := Has.at H253 hin253 (by rw [hy]; rfl)
          obtain ⟨cl254, Ar254, q254, S254, M254, H254, G254⟩ := id V247
          have hin254 : ¬ ((0 : Int32) < 0 ∨ cl254.slots.size ≤ ((0 : Int32)).toNatClampNeg) := inb_of S254 ⟨by decide, by decide⟩
          have hat254 : cl254.slots[((0 : Int32)).toNatClampNeg]? = some (.int (0 : Int32)) := Has.at H254 hin254 rfl
          have hc255_77 : (0 : Int32) = (0 : Int32) := (by decide)
          have hc256_84 : (1 : Int32) < (3 : Int32) := (by decide)
          obtain ⟨cl257, Ar257, q257, S257, M257, H257, G257⟩ := id f248
          have hin257 : ¬ ((1 : Int32) < 0 ∨ cl257.slots.size ≤ ((1 : Int32)).toNatClampNeg) := inb_of S257 ⟨by decide, by rw [hzz]; decide⟩
          have hat257 : cl257.slots[((1 : Int32)).toNatClampNeg]? = some (.int (1 : Int32)) := Has.at H257 hin257 (by rw [hy]; rfl)
          obtain ⟨cl258, Ar258, q258, S258, M258, H258, G258⟩ := id V247
          have hin258 : ¬ ((1 : Int32) < 0 ∨ cl258.slots.size ≤ ((1 : Int32)).toNatClampNeg) := inb_of S258 ⟨by decide, by decide⟩
          have hat258 : cl258.slots[((1 : Int32)).toNatClampNeg]? = some (.int (1 : Int32)) := Has.at H258 hin258 rfl
          have hc259_93 : (1 : Int32) = (1 : Int32) := (by decide)
          have go260 : own_go p e below (s₁.setTop (entryFrame m #[(.ref a1), (.int p2)] 4)) (T247.setTop (mkF m 98 #[.val (.ref a1), .val (.int p2), .val (.ref b1), .val (.int (3 : Int32))] [])) := by
            intro ttx ktx
            refine go252 ttx ?_
            show Steps p.tables e below (T247.setTop (mkF m 73 #[.val (.ref a1), .val (.int p2), .val (.ref b1), .val (.int (3 : Int32))] [(.int (0 : Int32)), (.ref a1)])) _
            refine X247.iaload hx (j := (0 : Int32)) (v := (.int (0 : Int32))) (own_hp e247 Ar253.1) (State.isArrayOf_alike hZ.alike Ar253.2.1) Ar253.2.2 hin253 hat253 (g := (mkF m 73 #[.val (.ref a1), .val (.int p2), .val (.ref b1), .val (.int (3 : Int32))] [(.int (0 : Int32)), (.ref a1)])) rfl rfl (hb hby d12_73) _ ?_
            show Steps p.tables e below (T247.setTop (mkF m 74 #[.val (.ref a1), .val (.int p2), .val (.ref b1), .val (.int (3 : Int32))] [(.int (0 : Int32))])) _
            refine XS.aloadN X247.here hx rfl (hb hby d12_74) rfl rfl ?_
            show Steps p.tables e below (T247.setTop (mkF m 75 #[.val (.ref a1), .val (.int p2), .val (.ref b1), .val (.int (3 : Int32))] [(.ref b1), (.int (0 : Int32))])) _
            refine XS.iconst X247.here hx rfl (hb hby d12_75) ?_
            show Steps p.tables e below (T247.setTop (mkF m 76 #[.val (.ref a1), .val (.int p2), .val (.ref b1), .val (.int (3 : Int32))] [(.int (0 : Int32)), (.ref b1), (.int (0 : Int32))])) _
            refine X247.iaload hx (j := (0 : Int32)) (v := (.int (0 : Int32))) (own_hp e247 Ar254.1) (State.isArrayOf_alike hZ.alike Ar254.2.1) Ar254.2.2 hin254 hat254 (g := (mkF m 76 #[.val (.ref a1), .val (.int p2), .val (.ref b1), .val (.int (3 : Int32))] [(.int (0 : Int32)), (.ref b1), (.int (0 : Int32))])) rfl rfl (hb hby d12_76) _ ?_
            show Steps p.tables e below (T247.setTop (mkF m 77 #[.val (.ref a1), .val (.int p2), .val (.ref b1), .val (.int (3 : Int32))] [(.int (0 : Int32)), (.int (0 : Int32))])) _
            refine XS.icmpYes X247.here hx rfl (pc0 := 77) (pc' := 82) rfl (hb hby d12_77) rfl (teq hc255_77).1 (by decide) (by decide) ?_
            show Steps p.tables e below (T247.setTop (mkF m 82 #[.val (.ref a1), .val (.int p2), .val (.ref b1), .val (.int (3 : Int32))] [])) _
            refine XS.iloadN X247.here hx rfl (hb hby d12_82) rfl ?_
            show Steps p.tables e below (T247.setTop (mkF m 83 #[.val (.ref a1), .val (.int p2), .val (.ref b1), .val (.int (3 : Int32))] [(.int (3 : Int32))])) _
            refine XS.iconst X247.here hx rfl (hb hby d12_83) ?_
            show Steps p.tables e below (T247.setTop (mkF m 84 #[.val (.ref a1), .val (.int p2), .val (.ref b1), .val (.int (3 : Int32))] [(.int (1 : Int32)), (.int (3 : Int32))])) _
            refine XS.icmpNo X247.here hx rfl (hb hby d12_84) rfl (tlt hc256_84).2.2.2 ?_
            show Steps p.tables e below (T247.setTop (mkF m 87 #[.val (.ref a1), .val (.int p2), .val (.ref b1), .val (.int (3 : Int32))] [])) _
            refine XS.aloadN X247.here hx rfl (hb hby d12_87) rfl rfl ?_
            show Steps p.tables e below (T247.setTop (mkF m 88 #[.val (.ref a1), .val (.int p2), .val (.ref b1), .val (.int (3 : Int32))] [(.ref a1)])) _
            refine XS.iconst X247.here hx rfl (hb hby d12_88) ?_
            show Steps p.tables e below (T247.setTop (mkF m 89 #[.val (.ref a1), .val (.int p2), .val (.ref b1), .val (.int (3 : Int32))] [(.int (1 : Int32)), (.ref a1)])) _
            refine X247.iaload hx (j := (1 : Int32)) (v := (.int (1 : Int32))) (own_hp e247 Ar257.1) (State.isArrayOf_alike hZ.alike Ar257.2.1) Ar257.2.2 hin257 hat257 (g := (mkF m 89 #[.val (.ref a1), .val (.int p2), .val (.ref b1), .val (.int (3 : Int32))] [(.int (1 : Int32)), (.ref a1)])) rfl rfl (hb hby d12_89) _ ?_
            show Steps p.tables e below (T247.setTop (mkF m 90 #[.val (.ref a1), .val (.int p2), .val (.ref b1), .val (.int (3 : Int32))] [(.int (1 : Int32))])) _
            refine XS.aloadN X247.here hx rfl (hb hby d12_90) rfl rfl ?_
            show Steps p.tables e below (T247.setTop (mkF m 91 #[.val (.ref a1), .val (.int p2), .val (.ref b1), .val (.int (3 : Int32))] [(.ref b1), (.int (1 : Int32))])) _
            refine XS.iconst X247.here hx rfl (hb hby d12_91) ?_
            show Steps p.tables e below (T247.setTop (mkF m 92 #[.val (.ref a1), .val (.int p2), .val (.ref b1), .val (.int (3 : Int32))] [(.int (1 : Int32)), (.ref b1), (.int (1 : Int32))])) _
            refine X247.iaload hx (j := (1 : Int32)) (v := (.int (1 : Int32))) (own_hp e247 Ar258.1) (State.isArrayOf_alike hZ.alike Ar258.2.1) Ar258.2.2 hin258 hat258 (g := (mkF m 92 #[.val (.ref a1), .val (.int p2), .val (.ref b1), .val (.int (3 : Int32))] [(.int (1 : Int32)), (.ref b1), (.int (1 : Int32))])) rfl rfl (hb hby d12_92) _ ?_
            show Steps p.tables e below (T247.setTop (mkF m 93 #[.val (.ref a1), .val (.int p2), .val (.ref b1), .val (.int (3 : Int32))] [(.int (1 : Int32)), (.int (1 : Int32))])) _
            refine XS.icmpYes X247.here hx rfl (pc0 := 93) (pc' := 98) rfl (hb hby d12_93) rfl (teq hc259_93).1 (by decide) (by decide) ?_
            exact ktx
          have hc261_100 : (2 : Int32) < (3 : Int32) := (by decide)
          obtain ⟨cl262, Ar262, q262, S262, M262, H262, G262⟩ := id f248
          have hin262 : ¬ ((2 : Int32) < 0 ∨ cl262.slots.size ≤ ((2 : Int32)).toNatClampNeg) := inb_of S262 ⟨by decide, by rw [hzz]; decide⟩
          have hat262 : cl262.slots[((2 : Int32)).toNatClampNeg]? = some (.int (3 : Int32)) := Has.at H262 hin262 (by rw [hy]; rfl)
          obtain ⟨cl263, Ar263, q263, S263, M263, H263, G263⟩ := id V247
          have hin263 : ¬ ((2 : Int32) < 0 ∨ cl263.slots.size ≤ ((2 : Int32)).toNatClampNeg) := inb_of S263 ⟨by decide, by decide⟩
          have hat263 : cl263.slots[((2 : Int32)).toNatClampNeg]? = some (.int (3 : Int32)) := Has.at H263 hin263 rfl
          have hc264_109 : (3 : Int32) = (3 : Int32) := (by decide)
          have hc265_116 : ¬ ((3 : Int32) < (3 : Int32)) := (by decide)
          have go266 : own_go p e below (s₁.setTop (entryFrame m #[(.ref a1), (.int p2)] 4)) (T247.setTop (mkF m 131 #[.val (.ref a1), .val (.int p2), .val (.ref b1), .val (.int (3 : Int32))] [(.int (1 : Int32))])) := by
            intro ttx ktx
            refine go260 ttx ?_
            show Steps p.tables e below (T247.setTop (mkF m 98 #[.val (.ref a1), .val (.int p2), .val (.ref b1), .val (.int (3 : Int32))] [])) _
            refine XS.iloadN X247.here hx rfl (hb hby d12_98) rfl ?_
            show Steps p.tables e below (T247.setTop (mkF m 99 #[.val (.ref a1), .val (.int p2), .val (.ref b1), .val (.int (3 : Int32))] [(.int (3 : Int32))])) _
            refine XS.iconst X247.here hx rfl (hb hby d12_99) ?_
            show Steps p.tables e below (T247.setTop (mkF m 100 #[.val (.ref a1), .val (.int p2), .val (.ref b1), .val (.int (3 : Int32))] [(.int (2 : Int32)), (.int (3 : Int32))])) _
            refine XS.icmpNo X247.here hx rfl (hb hby d12_100) rfl (tlt hc261_100).2.2.2 ?_
            show Steps p.tables e below (T247.setTop (mkF m 103 #[.val (.ref a1), .val (.int p2), .val (.ref b1), .val (.int (3 : Int32))] [])) _
            refine XS.aloadN X247.here hx rfl (hb hby d12_103) rfl rfl ?_
            show Steps p.tables e below (T247.setTop (mkF m 104 #[.val (.ref a1), .val (.int p2), .val (.ref b1), .val (.int (3 : Int32))] [(.ref a1)])) _
            refine XS.iconst X247.here hx rfl (hb hby d12_104) ?_
            show Steps p.tables e below (T247.setTop (mkF m 105 #[.val (.ref a1), .val (.int p2), .val (.ref b1), .val (.int (3 : Int32))] [(.int (2 : Int32)), (.ref a1)])) _
            refine X247.iaload hx (j := (2 : Int32)) (v := (.int (3 : Int32))) (own_hp e247 Ar262.1) (State.isArrayOf_alike hZ.alike Ar262.2.1) Ar262.2.2 hin262 hat262 (g := (mkF m 105 #[.val (.ref a1), .val (.int p2), .val (.ref b1), .val (.int (3 : Int32))] [(.int (2 : Int32)), (.ref a1)])) rfl rfl (hb hby d12_105) _ ?_
            show Steps p.tables e below (T247.setTop (mkF m 106 #[.val (.ref a1), .val (.int p2), .val (.ref b1), .val (.int (3 : Int32))] [(.int (3 : Int32))])) _
            refine XS.aloadN X247.here hx rfl (hb hby d12_106) rfl rfl ?_
            show Steps p.tables e below (T247.setTop (mkF m 107 #[.val (.ref a1), .val (.int p2), .val (.ref b1), .val (.int (3 : Int32))] [(.ref b1), (.int (3 : Int32))])) _
            refine XS.iconst X247.here hx rfl (hb hby d12_107) ?_
            show Steps p.tables e below (T247.setTop (mkF m 108 #[.val (.ref a1), .val (.int p2), .val (.ref b1), .val (.int (3 : Int32))] [(.int (2 : Int32)), (.ref b1), (.int (3 : Int32))])) _
            refine X247.iaload hx (j := (2 : Int32)) (v := (.int (3 : Int32))) (own_hp e247 Ar263.1) (State.isArrayOf_alike hZ.alike Ar263.2.1) Ar263.2.2 hin263 hat263 (g := (mkF m 108 #[.val (.ref a1), .val (.int p2), .val (.ref b1), .val (.int (3 : Int32))] [(.int (2 : Int32)), (.ref b1), (.int (3 : Int32))])) rfl rfl (hb hby d12_108) _ ?_
            show Steps p.tables e below (T247.setTop (mkF m 109 #[.val (.ref a1), .val (.int p2), .val (.ref b1), .val (.int (3 : Int32))] [(.int (3 : Int32)), (.int (3 : Int32))])) _
            refine XS.icmpYes X247.here hx rfl (pc0 := 109) (pc' := 114) rfl (hb hby d12_109) rfl (teq hc264_109).1 (by decide) (by decide) ?_
            show Steps p.tables e below (T247.setTop (mkF m 114 #[.val (.ref a1), .val (.int p2), .val (.ref b1), .val (.int (3 : Int32))] [])) _
            refine XS.iloadN X247.here hx rfl (hb hby d12_114) rfl ?_
            show Steps p.tables e below (T247.setTop (mkF m 115 #[.val (.ref a1), .val (.int p2), .val (.ref b1), .val (.int (3 : Int32))] [(.int (3 : Int32))])) _
            refine XS.iconst X247.here hx rfl (hb hby d12_115) ?_
            show Steps p.tables e below (T247.setTop (mkF m 116 #[.val (.ref a1), .val (.int p2), .val (.ref b1), .val (.int (3 : Int32))] [(.int (3 : Int32)), (.int (3 : Int32))])) _
            refine XS.icmpYes X247.here hx rfl (pc0 := 116) (pc' := 130) rfl (hb hby d12_116) rfl (flt hc265_116).2.2.2 (by decide) (by decide) ?_
            show Steps p.tables e below (T247.setTop (mkF m 130 #[.val (.ref a1), .val (.int p2), .val (.ref b1), .val (.int (3 : Int32))] [])) _
            refine XS.iconst X247.here hx rfl (hb hby d12_130) ?_
            exact ktx
          obtain ⟨fs, hr, hrun, hended, hW, hsame⟩ := X247.leave (v := some (.int (1 : Int32))) (fun h => by rw [Bd.returns] at h; cases h)
          refine ⟨_, _, go266 _ ?_, hrun, hended, _, _, rfl, ?_, ⟨_, rfl⟩, hW, hsame.mono (by decide) (by decide)⟩
          · exact retN X247 hx (t := .boolean) Bd.returns (by simp) (hb hby d12_131) hr
          · show Q12 Z a1 p2 kb z ys h0 n0 _ T247.heap _
            rw [e247]
            exact ⟨rfl, N247, K247⟩
      · obtain ⟨cl267, Ar267, q267, S267, M267, H267, G267⟩ := id V225
        have hin267 : ¬ ((2 : Int32) < 0 ∨ cl267.slots.size ≤ ((2 : Int32)).toNatClampNeg) := inb_of S267 ⟨by decide, by decide⟩
        obtain ⟨T268, h268, X268, e268, W268, st268⟩ := stI X225 hx hZ e225 Ar267 (j := (2 : Int32)) hin267 (g := (mkF m 41 #[.val (.ref a1), .val (.int p2), .val (.ref b1), .val (.int (2 : Int32))] [(.int (2 : Int32)), (.int (2 : Int32)), (.ref b1)])) rfl rfl (hb hby d12_41)
        have Z268 : n0 ≤ h268.size := Nat.le_trans Z225 (Nat.le_of_eq W268.size.symm)
        have K268 : Keep h0 h268 [] := K225.wr W268 (Or.inr sz_b1)
        have N268 := Fr.snoc X268 N225 g_b1
        have V268 : Arv Z h268 b1 k1 .int (4 : Int32) [(.int (0 : Int32)), (.int (1 : Int32)), (.int (2 : Int32)), (.int (0 : Int32))] (.int (0 : Int32)) := Arv.set Ar267 q267 S267 M267 H267 G267 rfl W268 2 rfl (Nat.le_of_ble_eq_true rfl)
        have go269 : own_go p e below (s₁.setTop (entryFrame m #[(.ref a1), (.int p2)] 4)) (T268.setTop (mkF m 49 #[.val (.ref a1), .val (.int p2), .val (.ref b1), .val (.int (3 : Int32))] [(.int (p2 &&& (8 : Int32)))])) := by
          intro ttx ktx
          refine go226 ttx ?_
          show Steps p.tables e below (T225.setTop (mkF m 35 #[.val (.ref a1), .val (.int p2), .val (.ref b1), .val (.int (2 : Int32))] [(.int (p2 &&& (4 : Int32)))])) _
          refine XS.ifNo X225.here hx rfl (hb hby d12_35) rfl ((if0 _ _).trans (feq hc227_35).1) ?_
          show Steps p.tables e below (T225.setTop (mkF m 38 #[.val (.ref a1), .val (.int p2), .val (.ref b1), .val (.int (2 : Int32))] [])) _
          refine XS.aloadN X225.here hx rfl (hb hby d12_38) rfl rfl ?_
          show Steps p.tables e below (T225.setTop (mkF m 39 #[.val (.ref a1), .val (.int p2), .val (.ref b1), .val (.int (2 : Int32))] [(.ref b1)])) _
          refine XS.iloadN X225.here hx rfl (hb hby d12_39) rfl ?_
          show Steps p.tables e below (T225.setTop (mkF m 40 #[.val (.ref a1), .val (.int p2), .val (.ref b1), .val (.int (2 : Int32))] [(.int (2 : Int32)), (.ref b1)])) _
          refine XS.iconst X225.here hx rfl (hb hby d12_40) ?_
          show Steps p.tables e below (T225.setTop (mkF m 41 #[.val (.ref a1), .val (.int p2), .val (.ref b1), .val (.int (2 : Int32))] [(.int (2 : Int32)), (.int (2 : Int32)), (.ref b1)])) _
          refine st268 _ ?_
          show Steps p.tables e below (T268.setTop (mkF m 42 #[.val (.ref a1), .val (.int p2), .val (.ref b1), .val (.int (2 : Int32))] [])) _
          refine XS.iinc X268.here hx rfl (hb hby d12_42) rfl (l' := #[.val (.ref a1), .val (.int p2), .val (.ref b1), .val (.int (3 : Int32))]) rfl ?_
          show Steps p.tables e below (T268.setTop (mkF m 45 #[.val (.ref a1), .val (.int p2), .val (.ref b1), .val (.int (3 : Int32))] [])) _
          refine XS.iloadN X268.here hx rfl (hb hby d12_45) rfl ?_
          show Steps p.tables e below (T268.setTop (mkF m 46 #[.val (.ref a1), .val (.int p2), .val (.ref b1), .val (.int (3 : Int32))] [(.int p2)])) _
          refine XS.bipush X268.here hx rfl (hb hby d12_46) ?_
          show Steps p.tables e below (T268.setTop (mkF m 48 #[.val (.ref a1), .val (.int p2), .val (.ref b1), .val (.int (3 : Int32))] [(.int (8 : Int32)), (.int p2)])) _
          refine XS.iand X268.here hx rfl (hb hby d12_48) rfl ?_
          exact ktx
        by_cases hc270_49 : (p2 &&& (8 : Int32)) = (0 : Int32)
        · have hy : ys = [(0 : Int32), (1 : Int32), (2 : Int32)] := by rw [hys]; simp [own_bs, hc4_9, hc148_22, hc227_35, hc270_49]
          have hzz : z = (3 : Int32) := by rw [hz, hy]; rfl
          have f271 := ((((V_a.ext E1).other W146 ne2).other W225 ne2).other W268 ne2)
          obtain ⟨cl272, Ar272, -, S272, M272, -, -⟩ := id f271
          have hc273_62 : z = (3 : Int32) := hzz
          have hc274_68 : (0 : Int32) < (3 : Int32) := (by decide)
          obtain ⟨cl275, Ar275, q275, S275, M275, H275, G275⟩ := id f271
          have hin275 : ¬ ((0 : Int32) < 0 ∨ cl275.slots.size ≤ ((0 : Int32)).toNatClampNeg) := inb_of S275 ⟨by decide, by rw [hzz]; decide⟩
          have hat275 : cl275.slots[((0 : Int32)).toNatClampNeg]? = some (.int (0 : Int32)) := Has.at H275 hin275 (by rw [hy]; rfl)
          obtain ⟨cl276, Ar276, q276, S276, M276, H276, G276⟩ := id V268
          have hin276 : ¬ ((0 : Int32) < 0 ∨ cl276.slots.size ≤ ((0 : Int32)).toNatClampNeg) := inb_of S276 ⟨by decide, by decide⟩
          have hat276 : cl276.slots[((0 : Int32)).toNatClampNeg]? = some (.int (0 : Int32)) := Has.at H276 hin276 rfl
          have hc277_77 : (0 : Int32) = (0 : Int32) := (by decide)
          have go278 : own_go p e below (s₁.setTop (entryFrame m #[(.ref a1), (.int p2)] 4)) (T268.setTop (mkF m 82 #[.val (.ref a1), .val (.int p2), .val (.ref b1), .val (.int (3 : Int32))] [])) := by
            intro ttx ktx
            refine go269 ttx ?_
            show Steps p.tables e below (T268.setTop (mkF m 49 #[.val (.ref a1), .val (.int p2), .val (.ref b1), .val (.int (3 : Int32))] [(.int (p2 &&& (8 : Int32)))])) _
            refine XS.ifYes X268.here hx rfl (pc0 := 49) (pc' := 59) rfl (hb hby d12_49) rfl ((if0 _ _).trans (teq hc270_49).1) (by decide) (by decide) ?_
            show Steps p.tables e below (T268.setTop (mkF m 59 #[.val (.ref a1), .val (.int p2), .val (.ref b1), .val (.int (3 : Int32))] [])) _
            refine XS.aloadN X268.here hx rfl (hb hby d12_59) rfl rfl ?_
            show Steps p.tables e below (T268.setTop (mkF m 60 #[.val (.ref a1), .val (.int p2), .val (.ref b1), .val (.int (3 : Int32))] [(.ref a1)])) _
            refine X268.arraylength hx (own_hp e268 Ar272.1) (State.isArrayOf_alike hZ.alike Ar272.2.1) (g := (mkF m 60 #[.val (.ref a1), .val (.int p2), .val (.ref b1), .val (.int (3 : Int32))] [(.ref a1)])) rfl rfl (hb hby d12_60) _ ?_
            rw [len_of S272 M272]
            show Steps p.tables e below (T268.setTop (mkF m 61 #[.val (.ref a1), .val (.int p2), .val (.ref b1), .val (.int (3 : Int32))] [(.int z)])) _
            refine XS.iloadN X268.here hx rfl (hb hby d12_61) rfl ?_
            show Steps p.tables e below (T268.setTop (mkF m 62 #[.val (.ref a1), .val (.int p2), .val (.ref b1), .val (.int (3 : Int32))] [(.int (3 : Int32)), (.int z)])) _
            refine XS.icmpYes X268.here hx rfl (pc0 := 62) (pc' := 67) rfl (hb hby d12_62) rfl (teq hc273_62).1 (by decide) (by decide) ?_
            show Steps p.tables e below (T268.setTop (mkF m 67 #[.val (.ref a1), .val (.int p2), .val (.ref b1), .val (.int (3 : Int32))] [])) _
            refine XS.iloadN X268.here hx rfl (hb hby d12_67) rfl ?_
            show Steps p.tables e below (T268.setTop (mkF m 68 #[.val (.ref a1), .val (.int p2), .val (.ref b1), .val (.int (3 : Int32))] [(.int (3 : Int32))])) _
            refine XS.ifNo X268.here hx rfl (hb hby d12_68) rfl ((if0 _ _).trans (tlt hc274_68).2.2.2) ?_
            show Steps p.tables e below (T268.setTop (mkF m 71 #[.val (.ref a1), .val (.int p2), .val (.ref b1), .val (.int (3 : Int32))] [])) _
            refine XS.aloadN X268.here hx rfl (hb hby d12_71) rfl rfl ?_
            show Steps p.tables e below (T268.setTop (mkF m 72 #[.val (.ref a1), .val (.int p2), .val (.ref b1), .val (.int (3 : Int32))] [(.ref a1)])) _
            refine XS.iconst X268.here hx rfl (hb hby d12_72) ?_
            show Steps p.tables e below (T268.setTop (mkF m 73 #[.val (.ref a1), .val (.int p2), .val (.ref b1), .val (.int (3 : Int32))] [(.int (0 : Int32)), (.ref a1)])) _
            refine X268.iaload hx (j := (0 : Int32)) (v := (.int (0 : Int32))) (own_hp e268 Ar275.1) (State.isArrayOf_alike hZ.alike Ar275.2.1) Ar275.2.2 hin275 hat275 (g := (mkF m 73 #[.val (.ref a1), .val (.int p2), .val (.ref b1), .val (.int (3 : Int32))] [(.int (0 : Int32)), (.ref a1)])) rfl rfl (hb hby d12_73) _ ?_
            show Steps p.tables e below (T268.setTop (mkF m 74 #[.val (.ref a1), .val (.int p2), .val (.ref b1), .val (.int (3 : Int32))] [(.int (0 : Int32))])) _
            refine XS.aloadN X268.here hx rfl (hb hby d12_74) rfl rfl ?_
            show Steps p.tables e below (T268.setTop (mkF m 75 #[.val (.ref a1), .val (.int p2), .val (.ref b1), .val (.int (3 : Int32))] [(.ref b1), (.int (0 : Int32))])) _
            refine XS.iconst X268.here hx rfl (hb hby d12_75) ?_
            show Steps p.tables e below (T268.setTop (mkF m 76 #[.val (.ref a1), .val (.int p2), .val (.ref b1), .val (.int (3 : Int32))] [(.int (0 : Int32)), (.ref b1), (.int (0 : Int32))])) _
            refine X268.iaload hx (j := (0 : Int32)) (v := (.int (0 : Int32))) (own_hp e268 Ar276.1) (State.isArrayOf_alike hZ.alike Ar276.2.1) Ar276.2.2 hin276 hat276 (g := (mkF m 76 #[.val (.ref a1), .val (.int p2), .val (.ref b1), .val (.int (3 : Int32))] [(.int (0 : Int32)), (.ref b1), (.int (0 : Int32))])) rfl rfl (hb hby d12_76) _ ?_
            show Steps p.tables e below (T268.setTop (mkF m 77 #[.val (.ref a1), .val (.int p2), .val (.ref b1), .val (.int (3 : Int32))] [(.int (0 : Int32)), (.int (0 : Int32))])) _
            refine XS.icmpYes X268.here hx rfl (pc0 := 77) (pc' := 82) rfl (hb hby d12_77) rfl (teq hc277_77).1 (by decide) (by decide) ?_
            exact ktx
          have hc279_84 : (1 : Int32) < (3 : Int32) := (by decide)
          obtain ⟨cl280, Ar280, q280, S280, M280, H280, G280⟩ := id f271
          have hin280 : ¬ ((1 : Int32) < 0 ∨ cl280.slots.size ≤ ((1 : Int32)).toNatClampNeg) := inb_of S280 ⟨by decide, by rw [hzz]; decide⟩
          have hat280 : cl280.slots[((1 : Int32)).toNatClampNeg]? = some (.int (1 : Int32)) := Has.at H280 hin280 (by rw [hy]; rfl)
          obtain ⟨cl281, Ar281, q281, S281, M281, H281, G281⟩ := id V268
          have hin281 : ¬ ((1 : Int32) < 0 ∨ cl281.slots.size ≤ ((1 : Int32)).toNatClampNeg) := inb_of S281 ⟨by decide, by decide⟩
          have hat281 : cl281.slots[((1 : Int32)).toNatClampNeg]? = some (.int (1 : Int32)) := Has.at H281 hin281 rfl
          have hc282_93 : (1 : Int32) = (1 : Int32) := (by decide)
          have hc283_100 : (2 : Int32) < (3 : Int32) := (by decide)
          have go284 : own_go p e below (s₁.setTop (entryFrame m #[(.ref a1), (.int p2)] 4)) (T268.setTop (mkF m 105 #[.val (.ref a1), .val (.int p2), .val (.ref b1), .val (.int (3 : Int32))] [(.int (2 : Int32)), (.ref a1)])) := by
            intro ttx ktx
            refine go278 ttx ?_
            show Steps p.tables e below (T268.setTop (mkF m 82 #[.val (.ref a1), .val (.int p2), .val (.ref b1), .val (.int (3 : Int32))] [])) _
            refine XS.iloadN X268.here hx rfl (hb hby d12_82) rfl ?_
            show Steps p.tables e below (T268.setTop (mkF m 83 #[.val (.ref a1), .val (.int p2), .val (.ref b1), .val (.int (3 : Int32))] [(.int (3 : Int32))])) _
            refine XS.iconst X268.here hx rfl (hb hby d12_83) ?_
            show Steps p.tables e below (T268.setTop (mkF m 84 #[.val (.ref a1), .val (.int p2), .val (.ref b1), .val (.int (3 : Int32))] [(.int (1 : Int32)), (.int (3 : Int32))])) _
            refine XS.icmpNo X268.here hx rfl (hb hby d12_84) rfl (tlt hc279_84).2.2.2 ?_
            show Steps p.tables e below (T268.setTop (mkF m 87 #[.val (.ref a1), .val (.int p2), .val (.ref b1), .val (.int (3 : Int32))] [])) _
            refine XS.aloadN X268.here hx rfl (hb hby d12_87) rfl rfl ?_
            show Steps p.tables e below (T268.setTop (mkF m 88 #[.val (.ref a1), .val (.int p2), .val (.ref b1), .val (.int (3 : Int32))] [(.ref a1)])) _
            refine XS.iconst X268.here hx rfl (hb hby d12_88) ?_
            show Steps p.tables e below (T268.setTop (mkF m 89 #[.val (.ref a1), .val (.int p2), .val (.ref b1), .val (.int (3 : Int32))] [(.int (1 : Int32)), (.ref a1)])) _
            refine X268.iaload hx (j := (1 : Int32)) (v := (.int (1 : Int32))) (own_hp e268 Ar280.1) (State.isArrayOf_alike hZ.alike Ar280.2.1) Ar280.2.2 hin280 hat280 (g := (mkF m 89 #[.val (.ref a1), .val (.int p2), .val (.ref b1), .val (.int (3 : Int32))] [(.int (1 : Int32)), (.ref a1)])) rfl rfl (hb hby d12_89) _ ?_
            show Steps p.tables e below (T268.setTop (mkF m 90 #[.val (.ref a1), .val (.int p2), .val (.ref b1), .val (.int (3 : Int32))] [(.int (1 : Int32))])) _
            refine XS.aloadN X268.here hx rfl (hb hby d12_90) rfl rfl ?_
            show Steps p.tables e below (T268.setTop (mkF m 91 #[.val (.ref a1), .val (.int p2), .val (.ref b1), .val (.int (3 : Int32))] [(.ref b1), (.int (1 : Int32))])) _
            refine XS.iconst X268.here hx rfl (hb hby d12_91) ?_
            show Steps p.tables e below (T268.setTop (mkF m 92 #[.val (.ref a1), .val (.int p2), .val (.ref b1), .val (.int (3 : Int32))] [(.int (1 : Int32)), (.ref b1), (.int (1 : Int32))])) _
            refine X268.iaload hx (j := (1 : Int32)) (v := (.int (1 : Int32))) (own_hp e268 Ar281.1) (State.isArrayOf_alike hZ.alike Ar281.2.1) Ar281.2.2 hin281 hat281 (g := (mkF m 92 #[.val (.ref a1), .val (.int p2), .val (.ref b1), .val (.int (3 : Int32))] [(.int (1 : Int32)), (.ref b1), (.int (1 : Int32))])) rfl rfl (hb hby d12_92) _ ?_
            show Steps p.tables e below (T268.setTop (mkF m 93 #[.val (.ref a1), .val (.int p2), .val (.ref b1), .val (.int (3 : Int32))] [(.int (1 : Int32)), (.int (1 : Int32))])) _
            refine XS.icmpYes X268.here hx rfl (pc0 := 93) (pc' := 98) rfl (hb hby d12_93) rfl (teq hc282_93).1 (by decide) (by decide) ?_
            show Steps p.tables e below (T268.setTop (mkF m 98 #[.val (.ref a1), .val (.int p2), .val (.ref b1), .val (.int (3 : Int32))] [])) _
            refine XS.iloadN X268.here hx rfl (hb hby d12_98) rfl ?_
            show Steps p.tables e below (T268.setTop (mkF m 99 #[.val (.ref a1), .val (.int p2), .val (.ref b1), .val (.int (3 : Int32))] [(.int (3 : Int32))])) _
            refine XS.iconst X268.here hx rfl (hb hby d12_99) ?_
            show Steps p.tables e below (T268.setTop (mkF m 100 #[.val (.ref a1), .val (.int p2), .val (.ref b1), .val (.int (3 : Int32))] [(.int (2 : Int32)), (.int (3 : Int32))])) _
            refine XS.icmpNo X268.here hx rfl (hb hby d12_100) rfl (tlt hc283_100).2.2.2 ?_
            show Steps p.tables e below (T268.setTop (mkF m 103 #[.val (.ref a1), .val (.int p2), .val (.ref b1), .val (.int (3 : Int32))] [])) _
            refine XS.aloadN X268.here hx rfl (hb hby d12_103) rfl rfl ?_
            show Steps p.tables e below (T268.setTop (mkF m 104 #[.val (.ref a1), .val (.int p2), .val (.ref b1), .val (.int (3 : Int32))] [(.ref a1)])) _
            refine XS.iconst X268.here hx rfl (hb hby d12_104) ?_
            exact ktx
          obtain ⟨cl285, Ar285, q285, S285, M285, H285, G285⟩ := id f271
          have hin285 : ¬ ((2 : Int32) < 0 ∨ cl285.slots.size ≤ ((2 : Int32)).toNatClampNeg) := inb_of S285 ⟨by decide, by rw [hzz]; decide⟩
          have hat285 : cl285.slots[((2 : Int32)).toNatClampNeg]? = some (.int (2 : Int32)) := Has.at H285 hin285 (by rw [hy]; rfl)
          obtain ⟨cl286, Ar286, q286, S286, M286, H286, G286⟩ := id V268
          have hin286 : ¬ ((2 : Int32) < 0 ∨ cl286.slots.size ≤ ((2 : Int32)).toNatClampNeg) := inb_of S286 ⟨by decide, by decide⟩
          have hat286 : cl286.slots[((2 : Int32)).toNatClampNeg]? = some (.int (2 : Int32)) := Has.at H286 hin286 rfl
          have hc287_109 : (2 : Int32) = (2 : Int32) := (by decide)
          have hc288_116 : ¬ ((3 : Int32) < (3 : Int32)) := (by decide)
          have go289 : own_go p e below (s₁.setTop (entryFrame m #[(.ref a1), (.int p2)] 4)) (T268.setTop (mkF m 131 #[.val (.ref a1), .val (.int p2), .val (.ref b1), .val (.int (3 : Int32))] [(.int (1 : Int32))])) := by
            intro ttx ktx
            refine go284 ttx ?_
            show Steps p.tables e below (T268.setTop (mkF m 105 #[.val (.ref a1), .val (.int p2), .val (.ref b1), .val (.int (3 : Int32))] [(.int (2 : Int32)), (.ref a1)])) _
            refine X268.iaload hx (j := (2 : Int32)) (v := (.int (2 : Int32))) (own_hp e268 Ar285.1) (State.isArrayOf_alike hZ.alike Ar285.2.1) Ar285.2.2 hin285 hat285 (g := (mkF m 105 #[.val (.ref a1), .val (.int p2), .val (.ref b1), .val (.int (3 : Int32))] [(.int (2 : Int32)), (.ref a1)])) rfl rfl (hb hby d12_105) _ ?_
            show Steps p.tables e below (T268.setTop (mkF m 106 #[.val (.ref a1), .val (.int p2), .val (.ref b1), .val (.int (3 : Int32))] [(.int (2 : Int32))])) _
            refine XS.aloadN X268.here hx rfl (hb hby d12_106) rfl rfl ?_
            show Steps p.tables e below (T268.setTop (mkF m 107 #[.val (.ref a1), .val (.int p2), .val (.ref b1), .val (.int (3 : Int32))] [(.ref b1), (.int (2 : Int32))])) _
            refine XS.iconst X268.here hx rfl (hb hby d12_107) ?_
            show Steps p.tables e below (T268.setTop (mkF m 108 #[.val (.ref a1), .val (.int p2), .val (.ref b1), .val (.int (3 : Int32))] [(.int (2 : Int32)), (.ref b1), (.int (2 : Int32))])) _
            refine X268.iaload hx (j := (2 : Int32)) (v := (.int (2 : Int32))) (own_hp e268 Ar286.1) (State.isArrayOf_alike hZ.alike Ar286.2.1) Ar286.2.2 hin286 hat286 (g := (mkF m 108 #[.val (.ref a1), .val (.int p2), .val (.ref b1), .val (.int (3 : Int32))] [(.int (2 : Int32)), (.ref b1), (.int (2 : Int32))])) rfl rfl (hb hby d12_108) _ ?_
            show Steps p.tables e below (T268.setTop (mkF m 109 #[.val (.ref a1), .val (.int p2), .val (.ref b1), .val (.int (3 : Int32))] [(.int (2 : Int32)), (.int (2 : Int32))])) _
            refine XS.icmpYes X268.here hx rfl (pc0 := 109) (pc' := 114) rfl (hb hby d12_109) rfl (teq hc287_109).1 (by decide) (by decide) ?_
            show Steps p.tables e below (T268.setTop (mkF m 114 #[.val (.ref a1), .val (.int p2), .val (.ref b1), .val (.int (3 : Int32))] [])) _
            refine XS.iloadN X268.here hx rfl (hb hby d12_114) rfl ?_
            show Steps p.tables e below (T268.setTop (mkF m 115 #[.val (.ref a1), .val (.int p2), .val (.ref b1), .val (.int (3 : Int32))] [(.int (3 : Int32))])) _
            refine XS.iconst X268.here hx rfl (hb hby d12_115) ?_
            show Steps p.tables e below (T268.setTop (mkF m 116 #[.val (.ref a1), .val (.int p2), .val (.ref b1), .val (.int (3 : Int32))] [(.int (3 : Int32)), (.int (3 : Int32))])) _
            refine XS.icmpYes X268.here hx rfl (pc0 := 116) (pc' := 130) rfl (hb hby d12_116) rfl (flt hc288_116).2.2.2 (by decide) (by decide) ?_
            show Steps p.tables e below (T268.setTop (mkF m 130 #[.val (.ref a1), .val (.int p2), .val (.ref b1), .val (.int (3 : Int32))] [])) _
            refine XS.iconst X268.here hx rfl (hb hby d12_130) ?_
            exact ktx
          obtain ⟨fs, hr, hrun, hended, hW, hsame⟩ := X268.leave (v := some (.int (1 : Int32))) (fun h => by rw [Bd.returns] at h; cases h)
          refine ⟨_, _, go289 _ ?_, hrun, hended, _, _, rfl, ?_, ⟨_, rfl⟩, hW, hsame.mono (by decide) (by decide)⟩
          · exact retN X268 hx (t := .boolean) Bd.returns (by simp) (hb hby d12_131) hr
          · show Q12 Z a1 p2 kb z ys h0 n0 _ T268.heap _
            rw [e268]
            exact ⟨rfl, N268, K268⟩
        · obtain ⟨cl290, Ar290, q290, S290, M290, H290, G290⟩ := id V268
          have hin290 : ¬ ((3 : Int32) < 0 ∨ cl290.slots.size ≤ ((3 : Int32)).toNatClampNeg) := inb_of S290 ⟨by decide, by decide⟩
          obtain ⟨T291, h291, X291, e291, W291, st291⟩ := stI X268 hx hZ e268 Ar290 (j := (3 : Int32)) hin290 (g := (mkF m 55 #[.val (.ref a1), .val (.int p2), .val (.ref b1), .val (.int (3 : Int32))] [(.int (3 : Int32)), (.int (3 : Int32)), (.ref b1)])) rfl rfl (hb hby d12_55)
          have Z291 : n0 ≤ h291.size := Nat.le_trans Z268 (Nat.le_of_eq W291.size.symm)
          have K291 : Keep h0 h291 [] := K268.wr W291 (Or.inr sz_b1)
          have N291 := Fr.snoc X291 N268 g_b1
          have V291 : Arv Z h291 b1 k1 .int (4 : Int32) [(.int (0 : Int32)), (.int (1 : Int32)), (.int (2 : Int32)), (.int (3 : Int32))] (.int (0 : Int32)) := Arv.set Ar290 q290 S290 M290 H290 G290 rfl W291 3 rfl (Nat.le_of_ble_eq_true rfl)
          have hy : ys = [(0 : Int32), (1 : Int32), (2 : Int32), (3 : Int32)] := by rw [hys]; simp [own_bs, hc4_9, hc148_22, hc227_35, hc270_49]
          have hzz : z = (4 : Int32) := by rw [hz, hy]; rfl
          have f292 := (((((V_a.ext E1).other W146 ne2).other W225 ne2).other W268 ne2).other W291 ne2)
          obtain ⟨cl293, Ar293, -, S293, M293, -, -⟩ := id f292
          have hc294_62 : z = (4 : Int32) := hzz
          have hc295_68 : (0 : Int32) < (4 : Int32) := (by decide)
          have go296 : own_go p e below (s₁.setTop (entryFrame m #[(.ref a1), (.int p2)] 4)) (T291.setTop (mkF m 73 #[.val (.ref a1), .val (.int p2), .val (.ref b1), .val (.int (4 : Int32))] [(.int (0 : Int32)), (.ref a1)])) := by
            intro ttx ktx
            refine go269 ttx ?_
            show Steps p.tables e below (T268.setTop (mkF m 49 #[.val (.ref a1), .val (.int p2), .val (.ref b1), .val (.int (3 : Int32))] [(.int (p2 &&& (8 : Int32)))])) _
            refine XS.ifNo X268.here hx rfl (hb hby d12_49) rfl ((if0 _ _).trans (feq hc270_49).1) ?_
            show Steps p.tables e below (T268.setTop (mkF m 52 #[.val (.ref a1), .val (.int p2), .val (.ref b1), .val (.int (3 : Int32))] [])) _
            refine XS.aloadN X268.here hx rfl (hb hby d12_52) rfl rfl ?_
            show Steps p.tables e below (T268.setTop (mkF m 53 #[.val (.ref a1), .val (.int p2), .val (.ref b1), .val (.int (3 : Int32))] [(.ref b1)])) _
            refine XS.iloadN X268.here hx rfl (hb hby d12_53) rfl ?_
            show Steps p.tables e below (T268.setTop (mkF m 54 #[.val (.ref a1), .val (.int p2), .val (.ref b1), .val (.int (3 : Int32))] [(.int (3 : Int32)), (.ref b1)])) _
            refine XS.iconst X268.here hx rfl (hb hby d12_54) ?_
            show Steps p.tables e below (T268.setTop (mkF m 55 #[.val (.ref a1), .val (.int p2), .val (.ref b1), .val (.int (3 : Int32))] [(.int (3 : Int32)), (.int (3 : Int32)), (.ref b1)])) _
            refine st291 _ ?_
            show Steps p.tables e below (T291.setTop (mkF m 56 #[.val (.ref a1), .val (.int p2), .val (.ref b1), .val (.int (3 : Int32))] [])) _
            refine XS.iinc X291.here hx rfl (hb hby d12_56) rfl (l' := #[.val (.ref a1), .val (.int p2), .val (.ref b1), .val (.int (4 : Int32))]) rfl ?_
            show Steps p.tables e below (T291.setTop (mkF m 59 #[.val (.ref a1), .val (.int p2), .val (.ref b1), .val (.int (4 : Int32))] [])) _
            refine XS.aloadN X291.here hx rfl (hb hby d12_59) rfl rfl ?_
            show Steps p.tables e below (T291.setTop (mkF m 60 #[.val (.ref a1), .val (.int p2), .val (.ref b1), .val (.int (4 : Int32))] [(.ref a1)])) _
            refine X291.arraylength hx (own_hp e291 Ar293.1) (State.isArrayOf_alike hZ.alike Ar293.2.1) (g := (mkF m 60 #[.val (.ref a1), .val (.int p2), .val (.ref b1), .val (.int (4 : Int32))] [(.ref a1)])) rfl rfl (hb hby d12_60) _ ?_
            rw [len_of S293 M293]
            show Steps p.tables e below (T291.setTop (mkF m 61 #[.val (.ref a1), .val (.int p2), .val (.ref b1), .val (.int (4 : Int32))] [(.int z)])) _
            refine XS.iloadN X291.here hx rfl (hb hby d12_61) rfl ?_
            show Steps p.tables e below (T291.setTop (mkF m 62 #[.val (.ref a1), .val (.int p2), .val (.ref b1), .val (.int (4 : Int32))] [(.int (4 : Int32)), (.int z)])) _
            refine XS.icmpYes X291.here hx rfl (pc0 := 62) (pc' := 67) rfl (hb hby d12_62) rfl (teq hc294_62).1 (by decide) (by decide) ?_
            show Steps p.tables e below (T291.setTop (mkF m 67 #[.val (.ref a1), .val (.int p2), .val (.ref b1), .val (.int (4 : Int32))] [])) _
            refine XS.iloadN X291.here hx rfl (hb hby d12_67) rfl ?_
            show Steps p.tables e below (T291.setTop (mkF m 68 #[.val (.ref a1), .val (.int p2), .val (.ref b1), .val (.int (4 : Int32))] [(.int (4 : Int32))])) _
            refine XS.ifNo X291.here hx rfl (hb hby d12_68) rfl ((if0 _ _).trans (tlt hc295_68).2.2.2) ?_
            show Steps p.tables e below (T291.setTop (mkF m 71 #[.val (.ref a1), .val (.int p2), .val (.ref b1), .val (.int (4 : Int32))] [])) _
            refine XS.aloadN X291.here hx rfl (hb hby d12_71) rfl rfl ?_
            show Steps p.tables e below (T291.setTop (mkF m 72 #[.val (.ref a1), .val (.int p2), .val (.ref b1), .val (.int (4 : Int32))] [(.ref a1)])) _
            refine XS.iconst X291.here hx rfl (hb hby d12_72) ?_
            exact ktx
          obtain ⟨cl297, Ar297, q297, S297, M297, H297, G297⟩ := id f292
          have hin297 : ¬ ((0 : Int32) < 0 ∨ cl297.slots.size ≤ ((0 : Int32)).toNatClampNeg) := inb_of S297 ⟨by decide, by rw [hzz]; decide⟩
          have hat297 : cl297.slots[((0 : Int32)).toNatClampNeg]? = some (.int (0 : Int32)) := Has.at H297 hin297 (by rw [hy]; rfl)
          obtain ⟨cl298, Ar298, q298, S298, M298, H298, G298⟩ := id V291
          have hin298 : ¬ ((0 : Int32) < 0 ∨ cl298.slots.size ≤ ((0 : Int32)).toNatClampNeg) := inb_of S298 ⟨by decide, by decide⟩
          have hat298 : cl298.slots[((0 : Int32)).toNatClampNeg]? = some (.int (0 : Int32)) := Has.at H298 hin298 rfl
          have hc299_77 : (0 : Int32) = (0 : Int32) := (by decide)
          have hc300_84 : (1 : Int32) < (4 : Int32) := (by decide)
          obtain ⟨cl301, Ar301, q301, S301, M301, H301, G301⟩ := id f292
          have hin301 : ¬ ((1 : Int32) < 0 ∨ cl301.slots.size ≤ ((1 : Int32)).toNatClampNeg) := inb_of S301 ⟨by decide, by rw [hzz]; decide⟩
          have hat301 : cl301.slots[((1 : Int32)).toNatClampNeg]? = some (.int (1 : Int32)) := Has.at H301 hin301 (by rw [hy]; rfl)
          obtain ⟨cl302, Ar302, q302, S302, M302, H302, G302⟩ := id V291
          have hin302 : ¬ ((1 : Int32) < 0 ∨ cl302.slots.size ≤ ((1 : Int32)).toNatClampNeg) := inb_of S302 ⟨by decide, by decide⟩
          have hat302 : cl302.slots[((1 : Int32)).toNatClampNeg]? = some (.int (1 : Int32)) := Has.at H302 hin302 rfl
          have hc303_93 : (1 : Int32) = (1 : Int32) := (by decide)
          have go304 : own_go p e below (s₁.setTop (entryFrame m #[(.ref a1), (.int p2)] 4)) (T291.setTop (mkF m 98 #[.val (.ref a1), .val (.int p2), .val (.ref b1), .val (.int (4 : Int32))] [])) := by
            intro ttx ktx
            refine go296 ttx ?_
            show Steps p.tables e below (T291.setTop (mkF m 73 #[.val (.ref a1), .val (.int p2), .val (.ref b1), .val (.int (4 : Int32))] [(.int (0 : Int32)), (.ref a1)])) _
            refine X291.iaload hx (j := (0 : Int32)) (v := (.int (0 : Int32))) (own_hp e291 Ar297.1) (State.isArrayOf_alike hZ.alike Ar297.2.1) Ar297.2.2 hin297 hat297 (g := (mkF m 73 #[.val (.ref a1), .val (.int p2), .val (.ref b1), .val (.int (4 : Int32))] [(.int (0 : Int32)), (.ref a1)])) rfl rfl (hb hby d12_73) _ ?_
            show Steps p.tables e below (T291.setTop (mkF m 74 #[.val (.ref a1), .val (.int p2), .val (.ref b1), .val (.int (4 : Int32))] [(.int (0 : Int32))])) _
            refine XS.aloadN X291.here hx rfl (hb hby d12_74) rfl rfl ?_
            show Steps p.tables e below (T291.setTop (mkF m 75 #[.val (.ref a1), .val (.int p2), .val (.ref b1), .val (.int (4 : Int32))] [(.ref b1), (.int (0 : Int32))])) _
            refine XS.iconst X291.here hx rfl (hb hby d12_75) ?_
            show Steps p.tables e below (T291.setTop (mkF m 76 #[.val (.ref a1), .val (.int p2), .val (.ref b1), .val (.int (4 : Int32))] [(.int (0 : Int32)), (.ref b1), (.int (0 : Int32))])) _
            refine X291.iaload hx (j := (0 : Int32)) (v := (.int (0 : Int32))) (own_hp e291 Ar298.1) (State.isArrayOf_alike hZ.alike Ar298.2.1) Ar298.2.2 hin298 hat298 (g := (mkF m 76 #[.val (.ref a1), .val (.int p2), .val (.ref b1), .val (.int (4 : Int32))] [(.int (0 : Int32)), (.ref b1), (.int (0 : Int32))])) rfl rfl (hb hby d12_76) _ ?_
            show Steps p.tables e below (T291.setTop (mkF m 77 #[.val (.ref a1), .val (.int p2), .val (.ref b1), .val (.int (4 : Int32))] [(.int (0 : Int32)), (.int (0 : Int32))])) _
            refine XS.icmpYes X291.here hx rfl (pc0 := 77) (pc' := 82) rfl (hb hby d12_77) rfl (teq hc299_77).1 (by decide) (by decide) ?_
            show Steps p.tables e below (T291.setTop (mkF m 82 #[.val (.ref a1), .val (.int p2), .val (.ref b1), .val (.int (4 : Int32))] [])) _
            refine XS.iloadN X291.here hx rfl (hb hby d12_82) rfl ?_
            show Steps p.tables e below (T291.setTop (mkF m 83 #[.val (.ref a1), .val (.int p2), .val (.ref b1), .val (.int (4 : Int32))] [(.int (4 : Int32))])) _
            refine XS.iconst X291.here hx rfl (hb hby d12_83) ?_
            show Steps p.tables e below (T291.setTop (mkF m 84 #[.val (.ref a1), .val (.int p2), .val (.ref b1), .val (.int (4 : Int32))] [(.int (1 : Int32)), (.int (4 : Int32))])) _
            refine XS.icmpNo X291.here hx rfl (hb hby d12_84) rfl (tlt hc300_84).2.2.2 ?_
            show Steps p.tables e below (T291.setTop (mkF m 87 #[.val (.ref a1), .val (.int p2), .val (.ref b1), .val (.int (4 : Int32))] [])) _
            refine XS.aloadN X291.here hx rfl (hb hby d12_87) rfl rfl ?_
            show Steps p.tables e below (T291.setTop (mkF m 88 #[.val (.ref a1), .val (.int p2), .val (.ref b1), .val (.int (4 : Int32))] [(.ref a1)])) _
            refine XS.iconst X291.here hx rfl (hb hby d12_88) ?_
            show Steps p.tables e below (T291.setTop (mkF m 89 #[.val (.ref a1), .val (.int p2), .val (.ref b1), .val (.int (4 : Int32))] [(.int (1 : Int32)), (.ref a1)])) _
            refine X291.iaload hx (j := (1 : Int32)) (v := (.int (1 : Int32))) (own_hp e291 Ar301.1) (State.isArrayOf_alike hZ.alike Ar301.2.1) Ar301.2.2 hin301 hat301 (g := (mkF m 89 #[.val (.ref a1), .val (.int p2), .val (.ref b1), .val (.int (4 : Int32))] [(.int (1 : Int32)), (.ref a1)])) rfl rfl (hb hby d12_89) _ ?_
            show Steps p.tables e below (T291.setTop (mkF m 90 #[.val (.ref a1), .val (.int p2), .val (.ref b1), .val (.int (4 : Int32))] [(.int (1 : Int32))])) _
            refine XS.aloadN X291.here hx rfl (hb hby d12_90) rfl rfl ?_
            show Steps p.tables e below (T291.setTop (mkF m 91 #[.val (.ref a1), .val (.int p2), .val (.ref b1), .val (.int (4 : Int32))] [(.ref b1), (.int (1 : Int32))])) _
            refine XS.iconst X291.here hx rfl (hb hby d12_91) ?_
            show Steps p.tables e below (T291.setTop (mkF m 92 #[.val (.ref a1), .val (.int p2), .val (.ref b1), .val (.int (4 : Int32))] [(.int (1 : Int32)), (.ref b1), (.int (1 : Int32))])) _
            refine X291.iaload hx (j := (1 : Int32)) (v := (.int (1 : Int32))) (own_hp e291 Ar302.1) (State.isArrayOf_alike hZ.alike Ar302.2.1) Ar302.2.2 hin302 hat302 (g := (mkF m 92 #[.val (.ref a1), .val (.int p2), .val (.ref b1), .val (.int (4 : Int32))] [(.int (1 : Int32)), (.ref b1), (.int (1 : Int32))])) rfl rfl (hb hby d12_92) _ ?_
            show Steps p.tables e below (T291.setTop (mkF m 93 #[.val (.ref a1), .val (.int p2), .val (.ref b1), .val (.int (4 : Int32))] [(.int (1 : Int32)), (.int (1 : Int32))])) _
            refine XS.icmpYes X291.here hx rfl (pc0 := 93) (pc' := 98) rfl (hb hby d12_93) rfl (teq hc303_93).1 (by decide) (by decide) ?_
            exact ktx
          have hc305_100 : (2 : Int32) < (4 : Int32) := (by decide)
          obtain ⟨cl306, Ar306, q306, S306, M306, H306, G306⟩ := id f292
          have hin306 : ¬ ((2 : Int32) < 0 ∨ cl306.slots.size ≤ ((2 : Int32)).toNatClampNeg) := inb_of S306 ⟨by decide, by rw [hzz]; decide⟩
          have hat306 : cl306.slots[((2 : Int32)).toNatClampNeg]? = some (.int (2 : Int32)) := Has.at H306 hin306 (by rw [hy]; rfl)
          obtain ⟨cl307, Ar307, q307, S307, M307, H307, G307⟩ := id V291
          have hin307 : ¬ ((2 : Int32) < 0 ∨ cl307.slots.size ≤ ((2 : Int32)).toNatClampNeg) := inb_of S307 ⟨by decide, by decide⟩
          have hat307 : cl307.slots[((2 : Int32)).toNatClampNeg]? = some (.int (2 : Int32)) := Has.at H307 hin307 rfl
          have hc308_109 : (2 : Int32) = (2 : Int32) := (by decide)
          have hc309_116 : (3 : Int32) < (4 : Int32) := (by decide)
          have go310 : own_go p e below (s₁.setTop (entryFrame m #[(.ref a1), (.int p2)] 4)) (T291.setTop (mkF m 121 #[.val (.ref a1), .val (.int p2), .val (.ref b1), .val (.int (4 : Int32))] [(.int (3 : Int32)), (.ref a1)])) := by
            intro ttx ktx
            refine go304 ttx ?_
            show Steps p.tables e below (T291.setTop (mkF m 98 #[.val (.ref a1), .val (.int p2), .val (.ref b1), .val (.int (4 : Int32))] [])) _
            refine XS.iloadN X291.here hx rfl (hb hby d12_98) rfl ?_
            show Steps p.tables e below (T291.setTop (mkF m 99 #[.val (.ref a1), .val (.int p2), .val (.ref b1), .val (.int (4 : Int32))] [(.int (4 : Int32))])) _
            refine XS.iconst X291.here hx rfl (hb hby d12_99) ?_
            show Steps p.tables e below (T291.setTop (mkF m 100 #[.val (.ref a1), .val (.int p2), .val (.ref b1), .val (.int (4 : Int32))] [(.int (2 : Int32)), (.int (4 : Int32))])) _
            refine XS.icmpNo X291.here hx rfl (hb hby d12_100) rfl (tlt hc305_100).2.2.2 ?_
            show Steps p.tables e below (T291.setTop (mkF m 103 #[.val (.ref a1), .val (.int p2), .val (.ref b1), .val (.int (4 : Int32))] [])) _
            refine XS.aloadN X291.here hx rfl (hb hby d12_103) rfl rfl ?_
            show Steps p.tables e below (T291.setTop (mkF m 104 #[.val (.ref a1), .val (.int p2), .val (.ref b1), .val (.int (4 : Int32))] [(.ref a1)])) _
            refine XS.iconst X291.here hx rfl (hb hby d12_104) ?_
            show Steps p.tables e below (T291.setTop (mkF m 105 #[.val (.ref a1), .val (.int p2), .val (.ref b1), .val (.int (4 : Int32))] [(.int (2 : Int32)), (.ref a1)])) _
            refine X291.iaload hx (j := (2 : Int32)) (v := (.int (2 : Int32))) (own_hp e291 Ar306.1) (State.isArrayOf_alike hZ.alike Ar306.2.1) Ar306.2.2 hin306 hat306 (g := (mkF m 105 #[.val (.ref a1), .val (.int p2), .val (.ref b1), .val (.int (4 : Int32))] [(.int (2 : Int32)), (.ref a1)])) rfl rfl (hb hby d12_105) _ ?_
            show Steps p.tables e below (T291.setTop (mkF m 106 #[.val (.ref a1), .val (.int p2), .val (.ref b1), .val (.int (4 : Int32))] [(.int (2 : Int32))])) _
            refine XS.aloadN X291.here hx rfl (hb hby d12_106) rfl rfl ?_
            show Steps p.tables e below (T291.setTop (mkF m 107 #[.val (.ref a1), .val (.int p2), .val (.ref b1), .val (.int (4 : Int32))] [(.ref b1), (.int (2 : Int32))])) _
            refine XS.iconst X291.here hx rfl (hb hby d12_107) ?_
            show Steps p.tables e below (T291.setTop (mkF m 108 #[.val (.ref a1), .val (.int p2), .val (.ref b1), .val (.int (4 : Int32))] [(.int (2 : Int32)), (.ref b1), (.int (2 : Int32))])) _
            refine X291.iaload hx (j := (2 : Int32)) (v := (.int (2 : Int32))) (own_hp e291 Ar307.1) (State.isArrayOf_alike hZ.alike Ar307.2.1) Ar307.2.2 hin307 hat307 (g := (mkF m 108 #[.val (.ref a1), .val (.int p2), .val (.ref b1), .val (.int (4 : Int32))] [(.int (2 : Int32)), (.ref b1), (.int (2 : Int32))])) rfl rfl (hb hby d12_108) _ ?_
            show Steps p.tables e below (T291.setTop (mkF m 109 #[.val (.ref a1), .val (.int p2), .val (.ref b1), .val (.int (4 : Int32))] [(.int (2 : Int32)), (.int (2 : Int32))])) _
            refine XS.icmpYes X291.here hx rfl (pc0 := 109) (pc' := 114) rfl (hb hby d12_109) rfl (teq hc308_109).1 (by decide) (by decide) ?_
            show Steps p.tables e below (T291.setTop (mkF m 114 #[.val (.ref a1), .val (.int p2), .val (.ref b1), .val (.int (4 : Int32))] [])) _
            refine XS.iloadN X291.here hx rfl (hb hby d12_114) rfl ?_
            show Steps p.tables e below (T291.setTop (mkF m 115 #[.val (.ref a1), .val (.int p2), .val (.ref b1), .val (.int (4 : Int32))] [(.int (4 : Int32))])) _
            refine XS.iconst X291.here hx rfl (hb hby d12_115) ?_
            show Steps p.tables e below (T291.setTop (mkF m 116 #[.val (.ref a1), .val (.int p2), .val (.ref b1), .val (.int (4 : Int32))] [(.int (3 : Int32)), (.int (4 : Int32))])) _
            refine XS.icmpNo X291.here hx rfl (hb hby d12_116) rfl (tlt hc309_116).2.2.2 ?_
            show Steps p.tables e below (T291.setTop (mkF m 119 #[.val (.ref a1), .val (.int p2), .val (.ref b1), .val (.int (4 : Int32))] [])) _
            refine XS.aloadN X291.here hx rfl (hb hby d12_119) rfl rfl ?_
            show Steps p.tables e below (T291.setTop (mkF m 120 #[.val (.ref a1), .val (.int p2), .val (.ref b1), .val (.int (4 : Int32))] [(.ref a1)])) _
            refine XS.iconst X291.here hx rfl (hb hby d12_120) ?_
            exact ktx
          obtain ⟨cl311, Ar311, q311, S311, M311, H311, G311⟩ := id f292
          have hin311 : ¬ ((3 : Int32) < 0 ∨ cl311.slots.size ≤ ((3 : Int32)).toNatClampNeg) := inb_of S311 ⟨by decide, by rw [hzz]; decide⟩
          have hat311 : cl311.slots[((3 : Int32)).toNatClampNeg]? = some (.int (3 : Int32)) := Has.at H311 hin311 (by rw [hy]; rfl)
          obtain ⟨cl312, Ar312, q312, S312, M312, H312, G312⟩ := id V291
          have hin312 : ¬ ((3 : Int32) < 0 ∨ cl312.slots.size ≤ ((3 : Int32)).toNatClampNeg) := inb_of S312 ⟨by decide, by decide⟩
          have hat312 : cl312.slots[((3 : Int32)).toNatClampNeg]? = some (.int (3 : Int32)) := Has.at H312 hin312 rfl
          have hc313_125 : (3 : Int32) = (3 : Int32) := (by decide)
          have go314 : own_go p e below (s₁.setTop (entryFrame m #[(.ref a1), (.int p2)] 4)) (T291.setTop (mkF m 131 #[.val (.ref a1), .val (.int p2), .val (.ref b1), .val (.int (4 : Int32))] [(.int (1 : Int32))])) := by
            intro ttx ktx
            refine go310 ttx ?_
            show Steps p.tables e below (T291.setTop (mkF m 121 #[.val (.ref a1), .val (.int p2), .val (.ref b1), .val (.int (4 : Int32))] [(.int (3 : Int32)), (.ref a1)])) _
            refine X291.iaload hx (j := (3 : Int32)) (v := (.int (3 : Int32))) (own_hp e291 Ar311.1) (State.isArrayOf_alike hZ.alike Ar311.2.1) Ar311.2.2 hin311 hat311 (g := (mkF m 121 #[.val (.ref a1), .val (.int p2), .val (.ref b1), .val (.int (4 : Int32))] [(.int (3 : Int32)), (.ref a1)])) rfl rfl (hb hby d12_121) _ ?_
            show Steps p.tables e below (T291.setTop (mkF m 122 #[.val (.ref a1), .val (.int p2), .val (.ref b1), .val (.int (4 : Int32))] [(.int (3 : Int32))])) _
            refine XS.aloadN X291.here hx rfl (hb hby d12_122) rfl rfl ?_
            show Steps p.tables e below (T291.setTop (mkF m 123 #[.val (.ref a1), .val (.int p2), .val (.ref b1), .val (.int (4 : Int32))] [(.ref b1), (.int (3 : Int32))])) _
            refine XS.iconst X291.here hx rfl (hb hby d12_123) ?_
            show Steps p.tables e below (T291.setTop (mkF m 124 #[.val (.ref a1), .val (.int p2), .val (.ref b1), .val (.int (4 : Int32))] [(.int (3 : Int32)), (.ref b1), (.int (3 : Int32))])) _
            refine X291.iaload hx (j := (3 : Int32)) (v := (.int (3 : Int32))) (own_hp e291 Ar312.1) (State.isArrayOf_alike hZ.alike Ar312.2.1) Ar312.2.2 hin312 hat312 (g := (mkF m 124 #[.val (.ref a1), .val (.int p2), .val (.ref b1), .val (.int (4 : Int32))] [(.int (3 : Int32)), (.ref b1), (.int (3 : Int32))])) rfl rfl (hb hby d12_124) _ ?_
            show Steps p.tables e below (T291.setTop (mkF m 125 #[.val (.ref a1), .val (.int p2), .val (.ref b1), .val (.int (4 : Int32))] [(.int (3 : Int32)), (.int (3 : Int32))])) _
            refine XS.icmpYes X291.here hx rfl (pc0 := 125) (pc' := 130) rfl (hb hby d12_125) rfl (teq hc313_125).1 (by decide) (by decide) ?_
            show Steps p.tables e below (T291.setTop (mkF m 130 #[.val (.ref a1), .val (.int p2), .val (.ref b1), .val (.int (4 : Int32))] [])) _
            refine XS.iconst X291.here hx rfl (hb hby d12_130) ?_
            exact ktx
          obtain ⟨fs, hr, hrun, hended, hW, hsame⟩ := X291.leave (v := some (.int (1 : Int32))) (fun h => by rw [Bd.returns] at h; cases h)
          refine ⟨_, _, go314 _ ?_, hrun, hended, _, _, rfl, ?_, ⟨_, rfl⟩, hW, hsame.mono (by decide) (by decide)⟩
          · exact retN X291 hx (t := .boolean) Bd.returns (by simp) (hb hby d12_131) hr
          · show Q12 Z a1 p2 kb z ys h0 n0 _ T291.heap _
            rw [e291]
            exact ⟨rfl, N291, K291⟩
theorem own_uniq {ys xs zs : List Int32} (h1 : ys.Perm xs) (h2 : ys.Pairwise (· ≤ ·)) (h : zs.Perm xs ∧ zs.Pairwise (· ≤ ·)) : ys = zs :=
  List.Perm.eq_of_pairwise (le := (· ≤ ·)) (fun a b _ _ h3 h4 => Int32.le_antisymm h3 h4) h2 h.2 (h1.trans h.1.symm)
def own_in4 (e : Int32) : Prop := e = 0 ∨ e = 1 ∨ e = 2 ∨ e = 3
theorem own_in (x : Int32) : own_in4 (x &&& (3 : Int32)) := by
  have a := c_and x 3 (by decide)
  generalize (x &&& 3) = e at a
  have e0 : (0 : Int32).toInt = 0 := rfl
  have e1 : (1 : Int32).toInt = 1 := rfl
  have e2 : (2 : Int32).toInt = 2 := rfl
  have e3 : (3 : Int32).toInt = 3 := rfl
  simp only [own_in4, ← Int32.toInt_inj]
  omega
theorem own_four (a b c d : Int32) (ha : own_in4 a) (hb : own_in4 b) (hc : own_in4 c) (hd : own_in4 d) : (own_bs (((((1 : Int32) <<< (a &&& 31)) ||| ((1 : Int32) <<< (b &&& 31))) ||| ((1 : Int32) <<< (c &&& 31))) ||| ((1 : Int32) <<< (d &&& 31)))).Perm (own_ins (own_ins (own_ins (own_ins ([] : List Int32) a) b) c) d) ∧ (own_bs (((((1 : Int32) <<< (a &&& 31)) ||| ((1 : Int32) <<< (b &&& 31))) ||| ((1 : Int32) <<< (c &&& 31))) ||| ((1 : Int32) <<< (d &&& 31)))).Pairwise (· ≤ ·) := by
  rcases ha with rfl | rfl | rfl | rfl <;> rcases hb with rfl | rfl | rfl | rfl <;> rcases hc with rfl | rfl | rfl | rfl <;> rcases hd with rfl | rfl | rfl | rfl <;> decide +kernel
theorem own_two (a b : Int32) (ha : own_in4 a) (hb : own_in4 b) : (own_bs (((1 : Int32) <<< (a &&& 31)) ||| ((1 : Int32) <<< (b &&& 31)))).Perm (own_ins (own_ins ([] : List Int32) a) b) ∧ (own_bs (((1 : Int32) <<< (a &&& 31)) ||| ((1 : Int32) <<< (b &&& 31)))).Pairwise (· ≤ ·) := by
  rcases ha with rfl | rfl | rfl | rfl <;> rcases hb with rfl | rfl | rfl | rfl <;> decide +kernel
theorem own_il (xs : List Int32) (e : Int32) : (own_ins xs e).length ≤ xs.length + 1 := by
  unfold own_ins; split <;> simp
theorem own_r4 {e : Int32} (h : own_in4 e) : 0 ≤ e.toInt ∧ e.toInt < (4 : Int32).toInt := by rcases h with rfl | rfl | rfl | rfl <;> decide
theorem own_pd3 : parseMethodDescriptor "(I)V" = some ⟨[.int], none⟩ := by decide +kernel
theorem own_pd4 : parseMethodDescriptor "()V" = some ⟨[], none⟩ := by decide +kernel
theorem own_pd5 : parseMethodDescriptor "()[I" = some ⟨[], some (.array .int)⟩ := by decide +kernel
theorem own_pd6 : parseMethodDescriptor "([II)Z" = some ⟨[(.array .int), .int], some .boolean⟩ := by decide +kernel
theorem ef_0 (m : MethodId) (x0 : Int32) (x1 : Int32) (x2 : Int32) (x3 : Int32) (x4 : Int32) (x5 : Int32) : entryFrame m #[(.int x0), (.int x1), (.int x2), (.int x3), (.int x4), (.int x5)] maxLocals = mkF m 0 #[.val (.int x0), .val (.int x1), .val (.int x2), .val (.int x3), .val (.int x4), .val (.int x5), .unset, .unset, .unset, .unset, .unset, .unset, .unset, .unset, .unset, .unset, .unset] [] := by first | (simp [entryFrame, mkF, argsToLocals, Value.category, maxLocals]; done) | rfl
def Q0 (Z : State) (p1 : Int32) (p2 : Int32) (p3 : Int32) (p4 : Int32) (p5 : Int32) (p6 : Int32) (h0 : Heap) (n0 : Nat) (v : Option Value) (h : Heap) (L : List Loc) : Prop := v = some (.int 1) ∧ Fr n0 L
set_option maxRecDepth 65536 in
set_option maxHeartbeats 40000000 in
theorem rm0 (l : Launch) (Z : State) (a0 : Array Value) (hw : ∀ d ∈ tables_1, d.before a0 Z = true) (ws : List Jvm.Cond) (p1 : Int32) (p2 : Int32) (p3 : Int32) (p4 : Int32) (p5 : Int32) (p6 : Int32) (h0 : Heap) (n0 : Nat) (Z0 : n0 ≤ h0.size) :
    MetFree l x (head1 (Jvm.Cond.code x code maxLocals ret :: ws) room_1) (fun aax UU => aax = #[(.int p1), (.int p2), (.int p3), (.int p4), (.int p5), (.int p6)] ∧ Z.Warmed39 UU.vm ∧ UU.heap = h0) (fun _ _ _ _ _ => True) (fun _ UU oux UU' => ∃ rvx Lrx, oux = .returned rvx ∧ Q0 Z p1 p2 p3 p4 p5 p6 h0 n0 rvx UU'.heap Lrx ∧ FrameEnd UU oux UU' Lrx 24 128) := by
  refine MetFree.of_bodySF (plainFor_of_name own_pn_com_example_linkwright_linkwright_link_FoundTargetsAddPinLaw) hisR ?_
  intro p e s m args below meth c s₁ Bd hml0 hP hK
  obtain ⟨rfl, hZ, hh⟩ := hP
  have hx := Bd.exec
  have hby := Bd.bytes
  have hml : c.maxLocals = 17 := hml0
  have hown : s.vm.findClass "com/example/linkwright/linkwright/link/FoundTargetsAddPinLaw" = some m.cls := findClass_of_methodNamed Bd.named
  have hnm := (name_of_methodNamed Bd.named Bd.method).1
  have X0 : Stand p l e room_1 s m #[(.int p1), (.int p2), (.int p3), (.int p4), (.int p5), (.int p6)] below meth c s₁ [] 0 0 := Stand.of_body Bd
  have e0 : s₁.heap = h0 := by rw [← hh, Bd.state]; rfl
  have N0 := Fr.nil n0
  have p0 : own_go p e below (s₁.setTop (entryFrame m #[(.int p1), (.int p2), (.int p3), (.int p4), (.int p5), (.int p6)] maxLocals)) (s₁.setTop (mkF m 0 #[.val (.int p1), .val (.int p2), .val (.int p3), .val (.int p4), .val (.int p5), .val (.int p6), .unset, .unset, .unset, .unset, .unset, .unset, .unset, .unset, .unset, .unset, .unset] [])) := fun ttx ktx => castTop (ef_0 m p1 p2 p3 p4 p5 p6) ktx
  obtain ⟨v1, hv_v1⟩ : ∃ z : Int32, z = (p1 &&& (3 : Int32)) := ⟨_, rfl⟩
  obtain ⟨v2, hv_v2⟩ : ∃ z : Int32, z = (p2 &&& (3 : Int32)) := ⟨_, rfl⟩
  obtain ⟨v3, hv_v3⟩ : ∃ z : Int32, z = (p3 &&& (3 : Int32)) := ⟨_, rfl⟩
  have go4 : own_go p e below (s₁.setTop (entryFrame m #[(.int p1), (.int p2), (.int p3), (.int p4), (.int p5), (.int p6)] maxLocals)) (s₁.setTop (mkF m 15 #[.val (.int p1), .val (.int p2), .val (.int p3), .val (.int p4), .val (.int p5), .val (.int p6), .val (.int v1), .val (.int v2), .val (.int v3), .unset, .unset, .unset, .unset, .unset, .unset, .unset, .unset] [])) := by
    intro ttx ktx
    refine p0 ttx ?_
    show Steps p.tables e below (s₁.setTop (mkF m 0 #[.val (.int p1), .val (.int p2), .val (.int p3), .val (.int p4), .val (.int p5), .val (.int p6), .unset, .unset, .unset, .unset, .unset, .unset, .unset, .unset, .unset, .unset, .unset] [])) _
    refine XS.iloadN X0.here hx rfl (hb hby at_0) rfl ?_
    show Steps p.tables e below (s₁.setTop (mkF m 1 #[.val (.int p1), .val (.int p2), .val (.int p3), .val (.int p4), .val (.int p5), .val (.int p6), .unset, .unset, .unset, .unset, .unset, .unset, .unset, .unset, .unset, .unset, .unset] [(.int p1)])) _
    refine XS.iconst X0.here hx rfl (hb hby at_1) ?_
    show Steps p.tables e below (s₁.setTop (mkF m 2 #[.val (.int p1), .val (.int p2), .val (.int p3), .val (.int p4), .val (.int p5), .val (.int p6), .unset, .unset, .unset, .unset, .unset, .unset, .unset, .unset, .unset, .unset, .unset] [(.int (3 : Int32)), (.int p1)])) _
    refine XS.iand X0.here hx rfl (hb hby at_2) rfl ?_
    show Steps p.tables e below (s₁.setTop (mkF m 3 #[.val (.int p1), .val (.int p2), .val (.int p3), .val (.int p4), .val (.int p5), .val (.int p6), .unset, .unset, .unset, .unset, .unset, .unset, .unset, .unset, .unset, .unset, .unset] [(.int (p1 &&& (3 : Int32)))])) _
    rw [← hv_v1]
    show Steps p.tables e below (s₁.setTop (mkF m 3 #[.val (.int p1), .val (.int p2), .val (.int p3), .val (.int p4), .val (.int p5), .val (.int p6), .unset, .unset, .unset, .unset, .unset, .unset, .unset, .unset, .unset, .unset, .unset] [(.int v1)])) _
    refine XS.istore X0.here hx rfl (hb hby at_3) rfl (l' := #[.val (.int p1), .val (.int p2), .val (.int p3), .val (.int p4), .val (.int p5), .val (.int p6), .val (.int v1), .unset, .unset, .unset, .unset, .unset, .unset, .unset, .unset, .unset, .unset]) rfl ?_
    show Steps p.tables e below (s₁.setTop (mkF m 5 #[.val (.int p1), .val (.int p2), .val (.int p3), .val (.int p4), .val (.int p5), .val (.int p6), .val (.int v1), .unset, .unset, .unset, .unset, .unset, .unset, .unset, .unset, .unset, .unset] [])) _
    refine XS.iloadN X0.here hx rfl (hb hby at_5) rfl ?_
    show Steps p.tables e below (s₁.setTop (mkF m 6 #[.val (.int p1), .val (.int p2), .val (.int p3), .val (.int p4), .val (.int p5), .val (.int p6), .val (.int v1), .unset, .unset, .unset, .unset, .unset, .unset, .unset, .unset, .unset, .unset] [(.int p2)])) _
    refine XS.iconst X0.here hx rfl (hb hby at_6) ?_
    show Steps p.tables e below (s₁.setTop (mkF m 7 #[.val (.int p1), .val (.int p2), .val (.int p3), .val (.int p4), .val (.int p5), .val (.int p6), .val (.int v1), .unset, .unset, .unset, .unset, .unset, .unset, .unset, .unset, .unset, .unset] [(.int (3 : Int32)), (.int p2)])) _
    refine XS.iand X0.here hx rfl (hb hby at_7) rfl ?_
    show Steps p.tables e below (s₁.setTop (mkF m 8 #[.val (.int p1), .val (.int p2), .val (.int p3), .val (.int p4), .val (.int p5), .val (.int p6), .val (.int v1), .unset, .unset, .unset, .unset, .unset, .unset, .unset, .unset, .unset, .unset] [(.int (p2 &&& (3 : Int32)))])) _
    rw [← hv_v2]
    show Steps p.tables e below (s₁.setTop (mkF m 8 #[.val (.int p1), .val (.int p2), .val (.int p3), .val (.int p4), .val (.int p5), .val (.int p6), .val (.int v1), .unset, .unset, .unset, .unset, .unset, .unset, .unset, .unset, .unset, .unset] [(.int v2)])) _
    refine XS.istore X0.here hx rfl (hb hby at_8) rfl (l' := #[.val (.int p1), .val (.int p2), .val (.int p3), .val (.int p4), .val (.int p5), .val (.int p6), .val (.int v1), .val (.int v2), .unset, .unset, .unset, .unset, .unset, .unset, .unset, .unset, .unset]) rfl ?_
    show Steps p.tables e below (s₁.setTop (mkF m 10 #[.val (.int p1), .val (.int p2), .val (.int p3), .val (.int p4), .val (.int p5), .val (.int p6), .val (.int v1), .val (.int v2), .unset, .unset, .unset, .unset, .unset, .unset, .unset, .unset, .unset] [])) _
    refine XS.iloadN X0.here hx rfl (hb hby at_10) rfl ?_
    show Steps p.tables e below (s₁.setTop (mkF m 11 #[.val (.int p1), .val (.int p2), .val (.int p3), .val (.int p4), .val (.int p5), .val (.int p6), .val (.int v1), .val (.int v2), .unset, .unset, .unset, .unset, .unset, .unset, .unset, .unset, .unset] [(.int p3)])) _
    refine XS.iconst X0.here hx rfl (hb hby at_11) ?_
    show Steps p.tables e below (s₁.setTop (mkF m 12 #[.val (.int p1), .val (.int p2), .val (.int p3), .val (.int p4), .val (.int p5), .val (.int p6), .val (.int v1), .val (.int v2), .unset, .unset, .unset, .unset, .unset, .unset, .unset, .unset, .unset] [(.int (3 : Int32)), (.int p3)])) _
    refine XS.iand X0.here hx rfl (hb hby at_12) rfl ?_
    show Steps p.tables e below (s₁.setTop (mkF m 13 #[.val (.int p1), .val (.int p2), .val (.int p3), .val (.int p4), .val (.int p5), .val (.int p6), .val (.int v1), .val (.int v2), .unset, .unset, .unset, .unset, .unset, .unset, .unset, .unset, .unset] [(.int (p3 &&& (3 : Int32)))])) _
    rw [← hv_v3]
    show Steps p.tables e below (s₁.setTop (mkF m 13 #[.val (.int p1), .val (.int p2), .val (.int p3), .val (.int p4), .val (.int p5), .val (.int p6), .val (.int v1), .val (.int v2), .unset, .unset, .unset, .unset, .unset, .unset, .unset, .unset, .unset] [(.int v3)])) _
    refine XS.istore X0.here hx rfl (hb hby at_13) rfl (l' := #[.val (.int p1), .val (.int p2), .val (.int p3), .val (.int p4), .val (.int p5), .val (.int p6), .val (.int v1), .val (.int v2), .val (.int v3), .unset, .unset, .unset, .unset, .unset, .unset, .unset, .unset]) rfl ?_
    exact ktx
  obtain ⟨v5, hv_v5⟩ : ∃ z : Int32, z = (p4 &&& (3 : Int32)) := ⟨_, rfl⟩
  obtain ⟨v6, hv_v6⟩ : ∃ z : Int32, z = (p5 &&& (3 : Int32)) := ⟨_, rfl⟩
  obtain ⟨v7, hv_v7⟩ : ∃ z : Int32, z = (p6 &&& (3 : Int32)) := ⟨_, rfl⟩
  have go8 : own_go p e below (s₁.setTop (entryFrame m #[(.int p1), (.int p2), (.int p3), (.int p4), (.int p5), (.int p6)] maxLocals)) (s₁.setTop (mkF m 32 #[.val (.int p1), .val (.int p2), .val (.int p3), .val (.int p4), .val (.int p5), .val (.int p6), .val (.int v1), .val (.int v2), .val (.int v3), .val (.int v5), .val (.int v6), .val (.int v7), .unset, .unset, .unset, .unset, .unset] [])) := by
    intro ttx ktx
    refine go4 ttx ?_
    show Steps p.tables e below (s₁.setTop (mkF m 15 #[.val (.int p1), .val (.int p2), .val (.int p3), .val (.int p4), .val (.int p5), .val (.int p6), .val (.int v1), .val (.int v2), .val (.int v3), .unset, .unset, .unset, .unset, .unset, .unset, .unset, .unset] [])) _
    refine XS.iloadN X0.here hx rfl (hb hby at_15) rfl ?_
    show Steps p.tables e below (s₁.setTop (mkF m 16 #[.val (.int p1), .val (.int p2), .val (.int p3), .val (.int p4), .val (.int p5), .val (.int p6), .val (.int v1), .val (.int v2), .val (.int v3), .unset, .unset, .unset, .unset, .unset, .unset, .unset, .unset] [(.int p4)])) _
    refine XS.iconst X0.here hx rfl (hb hby at_16) ?_
    show Steps p.tables e below (s₁.setTop (mkF m 17 #[.val (.int p1), .val (.int p2), .val (.int p3), .val (.int p4), .val (.int p5), .val (.int p6), .val (.int v1), .val (.int v2), .val (.int v3), .unset, .unset, .unset, .unset, .unset, .unset, .unset, .unset] [(.int (3 : Int32)), (.int p4)])) _
    refine XS.iand X0.here hx rfl (hb hby at_17) rfl ?_
    show Steps p.tables e below (s₁.setTop (mkF m 18 #[.val (.int p1), .val (.int p2), .val (.int p3), .val (.int p4), .val (.int p5), .val (.int p6), .val (.int v1), .val (.int v2), .val (.int v3), .unset, .unset, .unset, .unset, .unset, .unset, .unset, .unset] [(.int (p4 &&& (3 : Int32)))])) _
    rw [← hv_v5]
    show Steps p.tables e below (s₁.setTop (mkF m 18 #[.val (.int p1), .val (.int p2), .val (.int p3), .val (.int p4), .val (.int p5), .val (.int p6), .val (.int v1), .val (.int v2), .val (.int v3), .unset, .unset, .unset, .unset, .unset, .unset, .unset, .unset] [(.int v5)])) _
    refine XS.istore X0.here hx rfl (hb hby at_18) rfl (l' := #[.val (.int p1), .val (.int p2), .val (.int p3), .val (.int p4), .val (.int p5), .val (.int p6), .val (.int v1), .val (.int v2), .val (.int v3), .val (.int v5), .unset, .unset, .unset, .unset, .unset, .unset, .unset]) rfl ?_
    show Steps p.tables e below (s₁.setTop (mkF m 20 #[.val (.int p1), .val (.int p2), .val (.int p3), .val (.int p4), .val (.int p5), .val (.int p6), .val (.int v1), .val (.int v2), .val (.int v3), .val (.int v5), .unset, .unset, .unset, .unset, .unset, .unset, .unset] [])) _
    refine XS.iload X0.here hx rfl (hb hby at_20) rfl ?_
    show Steps p.tables e below (s₁.setTop (mkF m 22 #[.val (.int p1), .val (.int p2), .val (.int p3), .val (.int p4), .val (.int p5), .val (.int p6), .val (.int v1), .val (.int v2), .val (.int v3), .val (.int v5), .unset, .unset, .unset, .unset, .unset, .unset, .unset] [(.int p5)])) _
    refine XS.iconst X0.here hx rfl (hb hby at_22) ?_
    show Steps p.tables e below (s₁.setTop (mkF m 23 #[.val (.int p1), .val (.int p2), .val (.int p3), .val (.int p4), .val (.int p5), .val (.int p6), .val (.int v1), .val (.int v2), .val (.int v3), .val (.int v5), .unset, .unset, .unset, .unset, .unset, .unset, .unset] [(.int (3 : Int32)), (.int p5)])) _
    refine XS.iand X0.here hx rfl (hb hby at_23) rfl ?_
    show Steps p.tables e below (s₁.setTop (mkF m 24 #[.val (.int p1), .val (.int p2), .val (.int p3), .val (.int p4), .val (.int p5), .val (.int p6), .val (.int v1), .val (.int v2), .val (.int v3), .val (.int v5), .unset, .unset, .unset, .unset, .unset, .unset, .unset] [(.int (p5 &&& (3 : Int32)))])) _
    rw [← hv_v6]
    show Steps p.tables e below (s₁.setTop (mkF m 24 #[.val (.int p1), .val (.int p2), .val (.int p3), .val (.int p4), .val (.int p5), .val (.int p6), .val (.int v1), .val (.int v2), .val (.int v3), .val (.int v5), .unset, .unset, .unset, .unset, .unset, .unset, .unset] [(.int v6)])) _
    refine XS.istore X0.here hx rfl (hb hby at_24) rfl (l' := #[.val (.int p1), .val (.int p2), .val (.int p3), .val (.int p4), .val (.int p5), .val (.int p6), .val (.int v1), .val (.int v2), .val (.int v3), .val (.int v5), .val (.int v6), .unset, .unset, .unset, .unset, .unset, .unset]) rfl ?_
    show Steps p.tables e below (s₁.setTop (mkF m 26 #[.val (.int p1), .val (.int p2), .val (.int p3), .val (.int p4), .val (.int p5), .val (.int p6), .val (.int v1), .val (.int v2), .val (.int v3), .val (.int v5), .val (.int v6), .unset, .unset, .unset, .unset, .unset, .unset] [])) _
    refine XS.iload X0.here hx rfl (hb hby at_26) rfl ?_
    show Steps p.tables e below (s₁.setTop (mkF m 28 #[.val (.int p1), .val (.int p2), .val (.int p3), .val (.int p4), .val (.int p5), .val (.int p6), .val (.int v1), .val (.int v2), .val (.int v3), .val (.int v5), .val (.int v6), .unset, .unset, .unset, .unset, .unset, .unset] [(.int p6)])) _
    refine XS.iconst X0.here hx rfl (hb hby at_28) ?_
    show Steps p.tables e below (s₁.setTop (mkF m 29 #[.val (.int p1), .val (.int p2), .val (.int p3), .val (.int p4), .val (.int p5), .val (.int p6), .val (.int v1), .val (.int v2), .val (.int v3), .val (.int v5), .val (.int v6), .unset, .unset, .unset, .unset, .unset, .unset] [(.int (3 : Int32)), (.int p6)])) _
    refine XS.iand X0.here hx rfl (hb hby at_29) rfl ?_
    show Steps p.tables e below (s₁.setTop (mkF m 30 #[.val (.int p1), .val (.int p2), .val (.int p3), .val (.int p4), .val (.int p5), .val (.int p6), .val (.int v1), .val (.int v2), .val (.int v3), .val (.int v5), .val (.int v6), .unset, .unset, .unset, .unset, .unset, .unset] [(.int (p6 &&& (3 : Int32)))])) _
    rw [← hv_v7]
    show Steps p.tables e below (s₁.setTop (mkF m 30 #[.val (.int p1), .val (.int p2), .val (.int p3), .val (.int p4), .val (.int p5), .val (.int p6), .val (.int v1), .val (.int v2), .val (.int v3), .val (.int v5), .val (.int v6), .unset, .unset, .unset, .unset, .unset, .unset] [(.int v7)])) _
    refine XS.istore X0.here hx rfl (hb hby at_30) rfl (l' := #[.val (.int p1), .val (.int p2), .val (.int p3), .val (.int p4), .val (.int p5), .val (.int p6), .val (.int v1), .val (.int v2), .val (.int v3), .val (.int v5), .val (.int v6), .val (.int v7), .unset, .unset, .unset, .unset, .unset]) rfl ?_
    exact ktx
  have hf_v1 : own_in4 v1 := by rw [hv_v1]; exact own_in _
  have hf_v2 : own_in4 v2 := by rw [hv_v2]; exact own_in _
  have hf_v3 : own_in4 v3 := by rw [hv_v3]; exact own_in _
  have hf_v5 : own_in4 v5 := by rw [hv_v5]; exact own_in _
  have hf_v6 : own_in4 v6 := by rw [hv_v6]; exact own_in _
  have hf_v7 : own_in4 v7 := by rw [hv_v7]; exact own_in _
  have hn8 : (4 : Int32).toInt ≤ 8 := by decide
  have hn0 : 0 ≤ (4 : Int32).toInt := by decide
  have hpn : ¬ (4 : Int32) < 0 ∧ (4 : Int32).toNatClampNeg ≤ 8 := by decide
  have h4 : (4 : Int32).toInt = 4 := rfl
  obtain ⟨T9, h9, X9, e9, E9, A9, D9, -, st9⟩ := newO X0 hx hZ hown (hw _ (List.mem_of_getElem? (i := 0) rfl)) (hw _ (List.mem_of_getElem? (i := 1) rfl)) (hw _ (List.mem_of_getElem? (i := 2) rfl)) e0 (g := (mkF m 32 #[.val (.int p1), .val (.int p2), .val (.int p3), .val (.int p4), .val (.int p5), .val (.int p6), .val (.int v1), .val (.int v2), .val (.int v3), .val (.int v5), .val (.int v6), .val (.int v7), .unset, .unset, .unset, .unset, .unset] [])) rfl (hb hby at_32) (by decide) (by decide)
  obtain ⟨b9, g9⟩ : ∃ z, z = h0.size := ⟨_, rfl⟩
  rw [← g9] at A9 D9 st9
  have g_b9 : n0 ≤ b9 := Nat.le_trans Z0 (Nat.le_of_eq g9.symm)
  have Z9 : n0 ≤ h9.size := Nat.le_trans Z0 E9.1
  have F9_seen : Fld Z h9 b9 "com/example/linkwright/linkwright/link/FoundTargets" "seen" "[I" .null := D9 (Or.inr (hw _ (List.mem_of_getElem? (i := 11) rfl))) (ty := (.array .int)) (by decide)
  have F9_found : Fld Z h9 b9 "com/example/linkwright/linkwright/link/FoundTargets" "found" "[I" .null := D9 (Or.inr (hw _ (List.mem_of_getElem? (i := 13) rfl))) (ty := (.array .int)) (by decide)
  have F9_query : Fld Z h9 b9 "com/example/linkwright/linkwright/link/FoundTargets" "query" "I" (.int (0 : Int32)) := D9 (Or.inl (hw _ (List.mem_of_getElem? (i := 20) rfl))) (ty := .int) (by decide)
  have F9_count : Fld Z h9 b9 "com/example/linkwright/linkwright/link/FoundTargets" "count" "I" (.int (0 : Int32)) := D9 (Or.inl (hw _ (List.mem_of_getElem? (i := 22) rfl))) (ty := .int) (by decide)
  obtain ⟨_, _, ⟨T10, L10, k10, n10⟩, -, X10, ⟨Lc10, hQ10, l10, y10, z10⟩, st10⟩ := X9.specialBack hx (y := (⟨"com/example/linkwright/linkwright/link/FoundTargets", "<init>", "(I)V"⟩ : MethodName)) rfl hown (mvT hZ (hw _ (List.mem_of_getElem? (i := 3) rfl))) (mvT hZ (hw _ (List.mem_of_getElem? (i := 4) rfl))) (mvT hZ (hw _ (List.mem_of_getElem? (i := 5) rfl))) (by decide) (backOf (W := 1) (rm1 l Z a0 hw [] b9 (4 : Int32)  h9 n0 Z9 A9 g_b9 F9_seen F9_found F9_query F9_count hpn) hZ (hw _ (List.mem_of_getElem? (i := 5) rfl)) (hw _ (List.mem_of_getElem? (i := 2) rfl)) (by decide) (by decide)) (g := (mkF m 37 #[.val (.int p1), .val (.int p2), .val (.int p3), .val (.int p4), .val (.int p5), .val (.int p6), .val (.int v1), .val (.int v2), .val (.int v3), .val (.int v5), .val (.int v6), .val (.int v7), .unset, .unset, .unset, .unset, .unset] [(.int (4 : Int32)), (.ref b9), (.ref b9)])) rfl (by rw [hml]; rfl) (Steps.refl _) (a := b9) (argsL := [(.int (4 : Int32))]) (rest := [(.ref b9)]) (lenOf own_pd3 rfl) rfl (by show 2 * 0 + _ ≤ _; exact Nat.le_of_eq rfl) (hb hby at_37) (fun _ _ => ⟨rfl, e9, (by decide : 1 + 2 ≤ _), (by decide : 4 + 16 ≤ _)⟩)
  dsimp only [Pt.U, Pt.locs, Pt.cells, Pt.slots] at X10 l10 y10 z10 st10 hQ10
  subst l10 y10 z10
  obtain ⟨rfl, Nq10, Kq10, ts10, tf10, ga10, gb10, sa10, sb10, nt10, fb10⟩ := hQ10
  have N10 := Fr.app N0 Nq10
  have ne11 : b9 ≠ ts10 := Nat.ne_of_lt (Nat.lt_of_lt_of_le A9.lt sa10)
  have ne12 : b9 ≠ tf10 := Nat.ne_of_lt (Nat.lt_of_lt_of_le A9.lt sb10)
  have g_ts10 := ga10
  have g_tf10 := gb10
  have Z10 : n0 ≤ T10.heap.size := Nat.le_trans Z9 Kq10.1
  have Eq10 := fb10.1
  obtain ⟨cq13, kq13, q13a, q13b, q13c⟩ := isOf hZ rfl Eq10
  obtain ⟨_, _, ⟨T13, L13, k13, n13⟩, -, X13, ⟨Lc13, hQ13, l13, y13, z13⟩, st13⟩ := X10.virtualBack hx (y := (⟨"com/example/linkwright/linkwright/link/FoundTargets", "start", "()V"⟩ : MethodName)) (z := (⟨"com/example/linkwright/linkwright/link/FoundTargets", "start", "()V"⟩ : MethodName)) hown (mvT hZ (hw _ (List.mem_of_getElem? (i := 14) rfl))) (mvT hZ (hw _ (List.mem_of_getElem? (i := 15) rfl))) (notFace_of_selects (args := #[]) (mvT hZ (hw _ (List.mem_of_getElem? (i := 17) rfl)))) (mvT hZ (hw _ (List.mem_of_getElem? (i := 17) rfl))) (mvT hZ (hw _ (List.mem_of_getElem? (i := 16) rfl))) (by decide) (backOf (W := 0) (rm3 l Z a0 hw [] b9 ts10 tf10 (4 : Int32) (0 : Int32) T10.heap n0 Z10 g_b9 ne11 ne12 nt10 fb10 (by decide) hn0) hZ (hw _ (List.mem_of_getElem? (i := 18) rfl)) (hw _ (List.mem_of_getElem? (i := 2) rfl)) (by decide) (by decide)) q13a q13c (g := (mkF m 44 #[.val (.int p1), .val (.int p2), .val (.int p3), .val (.int p4), .val (.int p5), .val (.int p6), .val (.int v1), .val (.int v2), .val (.int v3), .val (.int v5), .val (.int v6), .val (.int v7), .val (.ref b9), .unset, .unset, .unset, .unset] [(.ref b9)])) rfl (by rw [hml]; rfl) (Steps.refl _) (argsL := []) (rest := []) (lenOf own_pd4 rfl) rfl (by show 2 * 0 + _ ≤ _; exact Nat.le_of_eq rfl) (hb hby at_44) (fun _ _ => ⟨rfl, rfl, (by decide : 3 + 0 ≤ _), (by decide : 20 + 0 ≤ _)⟩)
  dsimp only [Pt.U, Pt.locs, Pt.cells, Pt.slots] at X13 l13 y13 z13 st13 hQ13
  subst l13 y13 z13
  obtain ⟨rfl, Nq13, Kq13, fq13⟩ := hQ13
  have N13 := Fr.app N10 Nq13
  have Z13 : n0 ≤ T13.heap.size := Nat.le_trans Z10 Kq13.1
  have ft13 : own_ft Z T13.heap b9 ts10 tf10 (4 : Int32) (1 : Int32) [] := fq13
  have Eq13 := ft13.1
  obtain ⟨cq14, kq14, q14a, q14b, q14c⟩ := isOf hZ rfl Eq13
  obtain ⟨_, _, ⟨T14, L14, k14, n14⟩, -, X14, ⟨Lc14, hQ14, l14, y14, z14⟩, st14⟩ := X13.virtualBack hx (y := (⟨"com/example/linkwright/linkwright/link/FoundTargets", "add", "(I)V"⟩ : MethodName)) (z := (⟨"com/example/linkwright/linkwright/link/FoundTargets", "add", "(I)V"⟩ : MethodName)) hown (mvT hZ (hw _ (List.mem_of_getElem? (i := 23) rfl))) (mvT hZ (hw _ (List.mem_of_getElem? (i := 24) rfl))) (notFace_of_selects (args := #[]) (mvT hZ (hw _ (List.mem_of_getElem? (i := 26) rfl)))) (mvT hZ (hw _ (List.mem_of_getElem? (i := 26) rfl))) (mvT hZ (hw _ (List.mem_of_getElem? (i := 25) rfl))) (by decide) (backOf (W := 0) (rm4 l Z a0 hw [] b9 v1 ts10 tf10 (4 : Int32) (1 : Int32) ([] : List Int32) T13.heap n0 Z13 g_b9 g_ts10 g_tf10 ne11 ne12 nt10 ft13 hn8 (own_r4 hf_v1) (fun _ => by simp)) hZ (hw _ (List.mem_of_getElem? (i := 27) rfl)) (hw _ (List.mem_of_getElem? (i := 2) rfl)) (by decide) (by decide)) q14a q14c (g := (mkF m 51 #[.val (.int p1), .val (.int p2), .val (.int p3), .val (.int p4), .val (.int p5), .val (.int p6), .val (.int v1), .val (.int v2), .val (.int v3), .val (.int v5), .val (.int v6), .val (.int v7), .val (.ref b9), .unset, .unset, .unset, .unset] [(.int v1), (.ref b9)])) rfl (by rw [hml]; rfl) (Steps.refl _) (argsL := [(.int v1)]) (rest := []) (lenOf own_pd3 rfl) rfl (by show 2 * 0 + _ ≤ _; exact Nat.le_of_eq rfl) (hb hby at_51) (fun _ _ => ⟨rfl, rfl, (by decide : 3 + 0 ≤ _), (by decide : 20 + 0 ≤ _)⟩)
  dsimp only [Pt.U, Pt.locs, Pt.cells, Pt.slots] at X14 l14 y14 z14 st14 hQ14
  subst l14 y14 z14
  obtain ⟨rfl, Nq14, Kq14, ft14⟩ := hQ14
  have N14 := Fr.app N13 Nq14
  have Z14 : n0 ≤ T14.heap.size := Nat.le_trans Z13 Kq14.1
  have Eq14 := ft14.1
  obtain ⟨cq15, kq15, q15a, q15b, q15c⟩ := isOf hZ rfl Eq14
  obtain ⟨_, _, ⟨T15, L15, k15, n15⟩, -, X15, ⟨Lc15, hQ15, l15, y15, z15⟩, st15⟩ := X14.virtualBack hx (y := (⟨"com/example/linkwright/linkwright/link/FoundTargets", "add", "(I)V"⟩ : MethodName)) (z := (⟨"com/example/linkwright/linkwright/link/FoundTargets", "add", "(I)V"⟩ : MethodName)) hown (mvT hZ (hw _ (List.mem_of_getElem? (i := 23) rfl))) (mvT hZ (hw _ (List.mem_of_getElem? (i := 24) rfl))) (notFace_of_selects (args := #[]) (mvT hZ (hw _ (List.mem_of_getElem? (i := 26) rfl)))) (mvT hZ (hw _ (List.mem_of_getElem? (i := 26) rfl))) (mvT hZ (hw _ (List.mem_of_getElem? (i := 25) rfl))) (by decide) (backOf (W := 0) (rm4 l Z a0 hw [] b9 v2 ts10 tf10 (4 : Int32) (1 : Int32) (own_ins ([] : List Int32) v1) T14.heap n0 Z14 g_b9 g_ts10 g_tf10 ne11 ne12 nt10 ft14 hn8 (own_r4 hf_v2) (fun _ => by have := own_il ([] : List Int32) v1; have e0 : ([] : List Int32).length = 0 := rfl; omega)) hZ (hw _ (List.mem_of_getElem? (i := 27) rfl)) (hw _ (List.mem_of_getElem? (i := 2) rfl)) (by decide) (by decide)) q15a q15c (g := (mkF m 58 #[.val (.int p1), .val (.int p2), .val (.int p3), .val (.int p4), .val (.int p5), .val (.int p6), .val (.int v1), .val (.int v2), .val (.int v3), .val (.int v5), .val (.int v6), .val (.int v7), .val (.ref b9), .unset, .unset, .unset, .unset] [(.int v2), (.ref b9)])) rfl (by rw [hml]; rfl) (Steps.refl _) (argsL := [(.int v2)]) (rest := []) (lenOf own_pd3 rfl) rfl (by show 2 * 0 + _ ≤ _; exact Nat.le_of_eq rfl) (hb hby at_58) (fun _ _ => ⟨rfl, rfl, (by decide : 3 + 0 ≤ _), (by decide : 20 + 0 ≤ _)⟩)
  dsimp only [Pt.U, Pt.locs, Pt.cells, Pt.slots] at X15 l15 y15 z15 st15 hQ15
  subst l15 y15 z15
  obtain ⟨rfl, Nq15, Kq15, ft15⟩ := hQ15
  have N15 := Fr.app N14 Nq15
  have Z15 : n0 ≤ T15.heap.size := Nat.le_trans Z14 Kq15.1
  have Eq15 := ft15.1
  have go16 : own_go p e below (s₁.setTop (entryFrame m #[(.int p1), (.int p2), (.int p3), (.int p4), (.int p5), (.int p6)] maxLocals)) (T15.setTop (mkF m 65 #[.val (.int p1), .val (.int p2), .val (.int p3), .val (.int p4), .val (.int p5), .val (.int p6), .val (.int v1), .val (.int v2), .val (.int v3), .val (.int v5), .val (.int v6), .val (.int v7), .val (.ref b9), .unset, .unset, .unset, .unset] [(.int v3), (.ref b9)])) := by
    intro ttx ktx
    refine go8 ttx ?_
    show Steps p.tables e below (s₁.setTop (mkF m 32 #[.val (.int p1), .val (.int p2), .val (.int p3), .val (.int p4), .val (.int p5), .val (.int p6), .val (.int v1), .val (.int v2), .val (.int v3), .val (.int v5), .val (.int v6), .val (.int v7), .unset, .unset, .unset, .unset, .unset] [])) _
    refine st9 _ ?_
    show Steps p.tables e below (T9.setTop (mkF m 35 #[.val (.int p1), .val (.int p2), .val (.int p3), .val (.int p4), .val (.int p5), .val (.int p6), .val (.int v1), .val (.int v2), .val (.int v3), .val (.int v5), .val (.int v6), .val (.int v7), .unset, .unset, .unset, .unset, .unset] [(.ref b9)])) _
    refine XS.dup X9.here hx rfl (hb hby at_35) rfl rfl ?_
    show Steps p.tables e below (T9.setTop (mkF m 36 #[.val (.int p1), .val (.int p2), .val (.int p3), .val (.int p4), .val (.int p5), .val (.int p6), .val (.int v1), .val (.int v2), .val (.int v3), .val (.int v5), .val (.int v6), .val (.int v7), .unset, .unset, .unset, .unset, .unset] [(.ref b9), (.ref b9)])) _
    refine XS.iconst X9.here hx rfl (hb hby at_36) ?_
    show Steps p.tables e below (T9.setTop (mkF m 37 #[.val (.int p1), .val (.int p2), .val (.int p3), .val (.int p4), .val (.int p5), .val (.int p6), .val (.int v1), .val (.int v2), .val (.int v3), .val (.int v5), .val (.int v6), .val (.int v7), .unset, .unset, .unset, .unset, .unset] [(.int (4 : Int32)), (.ref b9), (.ref b9)])) _
    refine st10.trans ?_
    show Steps p.tables e below (T10.setTop (mkF m 40 #[.val (.int p1), .val (.int p2), .val (.int p3), .val (.int p4), .val (.int p5), .val (.int p6), .val (.int v1), .val (.int v2), .val (.int v3), .val (.int v5), .val (.int v6), .val (.int v7), .unset, .unset, .unset, .unset, .unset] [(.ref b9)])) _
    refine XS.astore X10.here hx rfl (hb hby at_40) rfl rfl (l' := #[.val (.int p1), .val (.int p2), .val (.int p3), .val (.int p4), .val (.int p5), .val (.int p6), .val (.int v1), .val (.int v2), .val (.int v3), .val (.int v5), .val (.int v6), .val (.int v7), .val (.ref b9), .unset, .unset, .unset, .unset]) rfl ?_
    show Steps p.tables e below (T10.setTop (mkF m 42 #[.val (.int p1), .val (.int p2), .val (.int p3), .val (.int p4), .val (.int p5), .val (.int p6), .val (.int v1), .val (.int v2), .val (.int v3), .val (.int v5), .val (.int v6), .val (.int v7), .val (.ref b9), .unset, .unset, .unset, .unset] [])) _
    refine XS.aload X10.here hx rfl (hb hby at_42) rfl rfl ?_
    show Steps p.tables e below (T10.setTop (mkF m 44 #[.val (.int p1), .val (.int p2), .val (.int p3), .val (.int p4), .val (.int p5), .val (.int p6), .val (.int v1), .val (.int v2), .val (.int v3), .val (.int v5), .val (.int v6), .val (.int v7), .val (.ref b9), .unset, .unset, .unset, .unset] [(.ref b9)])) _
    refine st13.trans ?_
    show Steps p.tables e below (T13.setTop (mkF m 47 #[.val (.int p1), .val (.int p2), .val (.int p3), .val (.int p4), .val (.int p5), .val (.int p6), .val (.int v1), .val (.int v2), .val (.int v3), .val (.int v5), .val (.int v6), .val (.int v7), .val (.ref b9), .unset, .unset, .unset, .unset] [])) _
    refine XS.aload X13.here hx rfl (hb hby at_47) rfl rfl ?_
    show Steps p.tables e below (T13.setTop (mkF m 49 #[.val (.int p1), .val (.int p2), .val (.int p3), .val (.int p4), .val (.int p5), .val (.int p6), .val (.int v1), .val (.int v2), .val (.int v3), .val (.int v5), .val (.int v6), .val (.int v7), .val (.ref b9), .unset, .unset, .unset, .unset] [(.ref b9)])) _
    refine XS.iload X13.here hx rfl (hb hby at_49) rfl ?_
    show Steps p.tables e below (T13.setTop (mkF m 51 #[.val (.int p1), .val (.int p2), .val (.int p3), .val (.int p4), .val (.int p5), .val (.int p6), .val (.int v1), .val (.int v2), .val (.int v3), .val (.int v5), .val (.int v6), .val (.int v7), .val (.ref b9), .unset, .unset, .unset, .unset] [(.int v1), (.ref b9)])) _
    refine st14.trans ?_
    show Steps p.tables e below (T14.setTop (mkF m 54 #[.val (.int p1), .val (.int p2), .val (.int p3), .val (.int p4), .val (.int p5), .val (.int p6), .val (.int v1), .val (.int v2), .val (.int v3), .val (.int v5), .val (.int v6), .val (.int v7), .val (.ref b9), .unset, .unset, .unset, .unset] [])) _
    refine XS.aload X14.here hx rfl (hb hby at_54) rfl rfl ?_
    show Steps p.tables e below (T14.setTop (mkF m 56 #[.val (.int p1), .val (.int p2), .val (.int p3), .val (.int p4), .val (.int p5), .val (.int p6), .val (.int v1), .val (.int v2), .val (.int v3), .val (.int v5), .val (.int v6), .val (.int v7), .val (.ref b9), .unset, .unset, .unset, .unset] [(.ref b9)])) _
    refine XS.iload X14.here hx rfl (hb hby at_56) rfl ?_
    show Steps p.tables e below (T14.setTop (mkF m 58 #[.val (.int p1), .val (.int p2), .val (.int p3), .val (.int p4), .val (.int p5), .val (.int p6), .val (.int v1), .val (.int v2), .val (.int v3), .val (.int v5), .val (.int v6), .val (.int v7), .val (.ref b9), .unset, .unset, .unset, .unset] [(.int v2), (.ref b9)])) _
    refine st15.trans ?_
    show Steps p.tables e below (T15.setTop (mkF m 61 #[.val (.int p1), .val (.int p2), .val (.int p3), .val (.int p4), .val (.int p5), .val (.int p6), .val (.int v1), .val (.int v2), .val (.int v3), .val (.int v5), .val (.int v6), .val (.int v7), .val (.ref b9), .unset, .unset, .unset, .unset] [])) _
    refine XS.aload X15.here hx rfl (hb hby at_61) rfl rfl ?_
    show Steps p.tables e below (T15.setTop (mkF m 63 #[.val (.int p1), .val (.int p2), .val (.int p3), .val (.int p4), .val (.int p5), .val (.int p6), .val (.int v1), .val (.int v2), .val (.int v3), .val (.int v5), .val (.int v6), .val (.int v7), .val (.ref b9), .unset, .unset, .unset, .unset] [(.ref b9)])) _
    refine XS.iload X15.here hx rfl (hb hby at_63) rfl ?_
    exact ktx
  obtain ⟨cq17, kq17, q17a, q17b, q17c⟩ := isOf hZ rfl Eq15
  obtain ⟨_, _, ⟨T17, L17, k17, n17⟩, -, X17, ⟨Lc17, hQ17, l17, y17, z17⟩, st17⟩ := X15.virtualBack hx (y := (⟨"com/example/linkwright/linkwright/link/FoundTargets", "add", "(I)V"⟩ : MethodName)) (z := (⟨"com/example/linkwright/linkwright/link/FoundTargets", "add", "(I)V"⟩ : MethodName)) hown (mvT hZ (hw _ (List.mem_of_getElem? (i := 23) rfl))) (mvT hZ (hw _ (List.mem_of_getElem? (i := 24) rfl))) (notFace_of_selects (args := #[]) (mvT hZ (hw _ (List.mem_of_getElem? (i := 26) rfl)))) (mvT hZ (hw _ (List.mem_of_getElem? (i := 26) rfl))) (mvT hZ (hw _ (List.mem_of_getElem? (i := 25) rfl))) (by decide) (backOf (W := 0) (rm4 l Z a0 hw [] b9 v3 ts10 tf10 (4 : Int32) (1 : Int32) (own_ins (own_ins ([] : List Int32) v1) v2) T15.heap n0 Z15 g_b9 g_ts10 g_tf10 ne11 ne12 nt10 ft15 hn8 (own_r4 hf_v3) (fun _ => by have := own_il (own_ins ([] : List Int32) v1) v2; have := own_il ([] : List Int32) v1; have e0 : ([] : List Int32).length = 0 := rfl; omega)) hZ (hw _ (List.mem_of_getElem? (i := 27) rfl)) (hw _ (List.mem_of_getElem? (i := 2) rfl)) (by decide) (by decide)) q17a q17c (g := (mkF m 65 #[.val (.int p1), .val (.int p2), .val (.int p3), .val (.int p4), .val (.int p5), .val (.int p6), .val (.int v1), .val (.int v2), .val (.int v3), .val (.int v5), .val (.int v6), .val (.int v7), .val (.ref b9), .unset, .unset, .unset, .unset] [(.int v3), (.ref b9)])) rfl (by rw [hml]; rfl) (Steps.refl _) (argsL := [(.int v3)]) (rest := []) (lenOf own_pd3 rfl) rfl (by show 2 * 0 + _ ≤ _; exact Nat.le_of_eq rfl) (hb hby at_65) (fun _ _ => ⟨rfl, rfl, (by decide : 3 + 0 ≤ _), (by decide : 20 + 0 ≤ _)⟩)
  dsimp only [Pt.U, Pt.locs, Pt.cells, Pt.slots] at X17 l17 y17 z17 st17 hQ17
  subst l17 y17 z17
  obtain ⟨rfl, Nq17, Kq17, ft17⟩ := hQ17
  have N17 := Fr.app N15 Nq17
  have Z17 : n0 ≤ T17.heap.size := Nat.le_trans Z15 Kq17.1
  have Eq17 := ft17.1
  obtain ⟨cq18, kq18, q18a, q18b, q18c⟩ := isOf hZ rfl Eq17
  obtain ⟨_, _, ⟨T18, L18, k18, n18⟩, -, X18, ⟨Lc18, hQ18, l18, y18, z18⟩, st18⟩ := X17.virtualBack hx (y := (⟨"com/example/linkwright/linkwright/link/FoundTargets", "add", "(I)V"⟩ : MethodName)) (z := (⟨"com/example/linkwright/linkwright/link/FoundTargets", "add", "(I)V"⟩ : MethodName)) hown (mvT hZ (hw _ (List.mem_of_getElem? (i := 23) rfl))) (mvT hZ (hw _ (List.mem_of_getElem? (i := 24) rfl))) (notFace_of_selects (args := #[]) (mvT hZ (hw _ (List.mem_of_getElem? (i := 26) rfl)))) (mvT hZ (hw _ (List.mem_of_getElem? (i := 26) rfl))) (mvT hZ (hw _ (List.mem_of_getElem? (i := 25) rfl))) (by decide) (backOf (W := 0) (rm4 l Z a0 hw [] b9 v5 ts10 tf10 (4 : Int32) (1 : Int32) (own_ins (own_ins (own_ins ([] : List Int32) v1) v2) v3) T17.heap n0 Z17 g_b9 g_ts10 g_tf10 ne11 ne12 nt10 ft17 hn8 (own_r4 hf_v5) (fun _ => by have := own_il (own_ins (own_ins ([] : List Int32) v1) v2) v3; have := own_il (own_ins ([] : List Int32) v1) v2; have := own_il ([] : List Int32) v1; have e0 : ([] : List Int32).length = 0 := rfl; omega)) hZ (hw _ (List.mem_of_getElem? (i := 27) rfl)) (hw _ (List.mem_of_getElem? (i := 2) rfl)) (by decide) (by decide)) q18a q18c (g := (mkF m 72 #[.val (.int p1), .val (.int p2), .val (.int p3), .val (.int p4), .val (.int p5), .val (.int p6), .val (.int v1), .val (.int v2), .val (.int v3), .val (.int v5), .val (.int v6), .val (.int v7), .val (.ref b9), .unset, .unset, .unset, .unset] [(.int v5), (.ref b9)])) rfl (by rw [hml]; rfl) (Steps.refl _) (argsL := [(.int v5)]) (rest := []) (lenOf own_pd3 rfl) rfl (by show 2 * 0 + _ ≤ _; exact Nat.le_of_eq rfl) (hb hby at_72) (fun _ _ => ⟨rfl, rfl, (by decide : 3 + 0 ≤ _), (by decide : 20 + 0 ≤ _)⟩)
  dsimp only [Pt.U, Pt.locs, Pt.cells, Pt.slots] at X18 l18 y18 z18 st18 hQ18
  subst l18 y18 z18
  obtain ⟨rfl, Nq18, Kq18, ft18⟩ := hQ18
  have N18 := Fr.app N17 Nq18
  have Z18 : n0 ≤ T18.heap.size := Nat.le_trans Z17 Kq18.1
  have Eq18 := ft18.1
  obtain ⟨cq19, kq19, q19a, q19b, q19c⟩ := isOf hZ rfl Eq18
  obtain ⟨_, _, ⟨T19, L19, k19, n19⟩, -, X19, ⟨Lc19, hQ19, l19, y19, z19⟩, st19⟩ := X18.virtualBack hx (y := (⟨"com/example/linkwright/linkwright/link/FoundTargets", "ascending", "()[I"⟩ : MethodName)) (z := (⟨"com/example/linkwright/linkwright/link/FoundTargets", "ascending", "()[I"⟩ : MethodName)) hown (mvT hZ (hw _ (List.mem_of_getElem? (i := 28) rfl))) (mvT hZ (hw _ (List.mem_of_getElem? (i := 29) rfl))) (notFace_of_selects (args := #[]) (mvT hZ (hw _ (List.mem_of_getElem? (i := 31) rfl)))) (mvT hZ (hw _ (List.mem_of_getElem? (i := 31) rfl))) (mvT hZ (hw _ (List.mem_of_getElem? (i := 30) rfl))) (by decide) (backOf (W := 0) (rm5 l Z a0 hw [] b9 ts10 tf10 (4 : Int32) (1 : Int32) (own_ins (own_ins (own_ins (own_ins ([] : List Int32) v1) v2) v3) v5) T18.heap n0 Z18 ne11 ne12 nt10 ft18 hn8) hZ (hw _ (List.mem_of_getElem? (i := 32) rfl)) (hw _ (List.mem_of_getElem? (i := 2) rfl)) (by decide) (by decide)) q19a q19c (g := (mkF m 77 #[.val (.int p1), .val (.int p2), .val (.int p3), .val (.int p4), .val (.int p5), .val (.int p6), .val (.int v1), .val (.int v2), .val (.int v3), .val (.int v5), .val (.int v6), .val (.int v7), .val (.ref b9), .unset, .unset, .unset, .unset] [(.ref b9)])) rfl (by rw [hml]; rfl) (Steps.refl _) (argsL := []) (rest := []) (lenOf own_pd5 rfl) rfl (by show 2 * 0 + _ ≤ _; exact Nat.le_of_eq rfl) (hb hby at_77) (fun _ _ => ⟨rfl, rfl, (by decide : 3 + 1 ≤ _), (by decide : 20 + 16 ≤ _)⟩)
  dsimp only [Pt.U, Pt.locs, Pt.cells, Pt.slots] at X19 l19 y19 z19 st19 hQ19
  subst l19 y19 z19
  obtain ⟨b19, kb19, ys19, rfl, Nq19, Kq19, sq19, Vq19, hp19, hw19⟩ := hQ19
  have N19 := Fr.app N18 Nq19
  have ne20 : b9 ≠ b19 := Nat.ne_of_lt (Nat.lt_of_lt_of_le Eq18.lt sq19)
  have ne21 : ts10 ≠ b19 := own_ne_s ft18 sq19
  have ne22 : tf10 ≠ b19 := own_ne_f ft18 sq19
  have g_b19 : n0 ≤ b19 := Nat.le_trans Z18 sq19
  have Z19 : n0 ≤ T19.heap.size := Nat.le_trans Z18 Kq19.1
  have ft19 := own_ft.keep0 ft18 Kq19
  have f24 := (Eq18.keep Kq19)
  obtain ⟨cq23, kq23, q23a, q23b, q23c⟩ := isOf hZ rfl f24
  obtain ⟨_, _, ⟨T23, L23, k23, n23⟩, -, X23, ⟨Lc23, hQ23, l23, y23, z23⟩, st23⟩ := X19.virtualBack hx (y := (⟨"com/example/linkwright/linkwright/link/FoundTargets", "start", "()V"⟩ : MethodName)) (z := (⟨"com/example/linkwright/linkwright/link/FoundTargets", "start", "()V"⟩ : MethodName)) hown (mvT hZ (hw _ (List.mem_of_getElem? (i := 14) rfl))) (mvT hZ (hw _ (List.mem_of_getElem? (i := 15) rfl))) (notFace_of_selects (args := #[]) (mvT hZ (hw _ (List.mem_of_getElem? (i := 17) rfl)))) (mvT hZ (hw _ (List.mem_of_getElem? (i := 17) rfl))) (mvT hZ (hw _ (List.mem_of_getElem? (i := 16) rfl))) (by decide) (backOf (W := 0) (rm3 l Z a0 hw [] b9 ts10 tf10 (4 : Int32) (1 : Int32) T19.heap n0 Z19 g_b9 ne11 ne12 nt10 ft19.fb (by decide) hn0) hZ (hw _ (List.mem_of_getElem? (i := 18) rfl)) (hw _ (List.mem_of_getElem? (i := 2) rfl)) (by decide) (by decide)) q23a q23c (g := (mkF m 84 #[.val (.int p1), .val (.int p2), .val (.int p3), .val (.int p4), .val (.int p5), .val (.int p6), .val (.int v1), .val (.int v2), .val (.int v3), .val (.int v5), .val (.int v6), .val (.int v7), .val (.ref b9), .val (.ref b19), .unset, .unset, .unset] [(.ref b9)])) rfl (by rw [hml]; rfl) (Steps.refl _) (argsL := []) (rest := []) (lenOf own_pd4 rfl) rfl (by show 2 * 0 + _ ≤ _; exact Nat.le_of_eq rfl) (hb hby at_84) (fun _ _ => ⟨rfl, rfl, (by decide : 4 + 0 ≤ _), (by decide : 36 + 0 ≤ _)⟩)
  dsimp only [Pt.U, Pt.locs, Pt.cells, Pt.slots] at X23 l23 y23 z23 st23 hQ23
  subst l23 y23 z23
  obtain ⟨rfl, Nq23, Kq23, fq23⟩ := hQ23
  have N23 := Fr.app N19 Nq23
  have Z23 : n0 ≤ T23.heap.size := Nat.le_trans Z19 Kq23.1
  have ft23 : own_ft Z T23.heap b9 ts10 tf10 (4 : Int32) (2 : Int32) [] := fq23
  have Eq23 := ft23.1
  obtain ⟨cq25, kq25, q25a, q25b, q25c⟩ := isOf hZ rfl Eq23
  obtain ⟨_, _, ⟨T25, L25, k25, n25⟩, -, X25, ⟨Lc25, hQ25, l25, y25, z25⟩, st25⟩ := X23.virtualBack hx (y := (⟨"com/example/linkwright/linkwright/link/FoundTargets", "add", "(I)V"⟩ : MethodName)) (z := (⟨"com/example/linkwright/linkwright/link/FoundTargets", "add", "(I)V"⟩ : MethodName)) hown (mvT hZ (hw _ (List.mem_of_getElem? (i := 23) rfl))) (mvT hZ (hw _ (List.mem_of_getElem? (i := 24) rfl))) (notFace_of_selects (args := #[]) (mvT hZ (hw _ (List.mem_of_getElem? (i := 26) rfl)))) (mvT hZ (hw _ (List.mem_of_getElem? (i := 26) rfl))) (mvT hZ (hw _ (List.mem_of_getElem? (i := 25) rfl))) (by decide) (backOf (W := 0) (rm4 l Z a0 hw [] b9 v6 ts10 tf10 (4 : Int32) (2 : Int32) ([] : List Int32) T23.heap n0 Z23 g_b9 g_ts10 g_tf10 ne11 ne12 nt10 ft23 hn8 (own_r4 hf_v6) (fun _ => by simp)) hZ (hw _ (List.mem_of_getElem? (i := 27) rfl)) (hw _ (List.mem_of_getElem? (i := 2) rfl)) (by decide) (by decide)) q25a q25c (g := (mkF m 91 #[.val (.int p1), .val (.int p2), .val (.int p3), .val (.int p4), .val (.int p5), .val (.int p6), .val (.int v1), .val (.int v2), .val (.int v3), .val (.int v5), .val (.int v6), .val (.int v7), .val (.ref b9), .val (.ref b19), .unset, .unset, .unset] [(.int v6), (.ref b9)])) rfl (by rw [hml]; rfl) (Steps.refl _) (argsL := [(.int v6)]) (rest := []) (lenOf own_pd3 rfl) rfl (by show 2 * 0 + _ ≤ _; exact Nat.le_of_eq rfl) (hb hby at_91) (fun _ _ => ⟨rfl, rfl, (by decide : 4 + 0 ≤ _), (by decide : 36 + 0 ≤ _)⟩)
  dsimp only [Pt.U, Pt.locs, Pt.cells, Pt.slots] at X25 l25 y25 z25 st25 hQ25
  subst l25 y25 z25
  obtain ⟨rfl, Nq25, Kq25, ft25⟩ := hQ25
  have N25 := Fr.app N23 Nq25
  have Z25 : n0 ≤ T25.heap.size := Nat.le_trans Z23 Kq25.1
  have Eq25 := ft25.1
  obtain ⟨cq26, kq26, q26a, q26b, q26c⟩ := isOf hZ rfl Eq25
  obtain ⟨_, _, ⟨T26, L26, k26, n26⟩, -, X26, ⟨Lc26, hQ26, l26, y26, z26⟩, st26⟩ := X25.virtualBack hx (y := (⟨"com/example/linkwright/linkwright/link/FoundTargets", "add", "(I)V"⟩ : MethodName)) (z := (⟨"com/example/linkwright/linkwright/link/FoundTargets", "add", "(I)V"⟩ : MethodName)) hown (mvT hZ (hw _ (List.mem_of_getElem? (i := 23) rfl))) (mvT hZ (hw _ (List.mem_of_getElem? (i := 24) rfl))) (notFace_of_selects (args := #[]) (mvT hZ (hw _ (List.mem_of_getElem? (i := 26) rfl)))) (mvT hZ (hw _ (List.mem_of_getElem? (i := 26) rfl))) (mvT hZ (hw _ (List.mem_of_getElem? (i := 25) rfl))) (by decide) (backOf (W := 0) (rm4 l Z a0 hw [] b9 v7 ts10 tf10 (4 : Int32) (2 : Int32) (own_ins ([] : List Int32) v6) T25.heap n0 Z25 g_b9 g_ts10 g_tf10 ne11 ne12 nt10 ft25 hn8 (own_r4 hf_v7) (fun _ => by have := own_il ([] : List Int32) v6; have e0 : ([] : List Int32).length = 0 := rfl; omega)) hZ (hw _ (List.mem_of_getElem? (i := 27) rfl)) (hw _ (List.mem_of_getElem? (i := 2) rfl)) (by decide) (by decide)) q26a q26c (g := (mkF m 98 #[.val (.int p1), .val (.int p2), .val (.int p3), .val (.int p4), .val (.int p5), .val (.int p6), .val (.int v1), .val (.int v2), .val (.int v3), .val (.int v5), .val (.int v6), .val (.int v7), .val (.ref b9), .val (.ref b19), .unset, .unset, .unset] [(.int v7), (.ref b9)])) rfl (by rw [hml]; rfl) (Steps.refl _) (argsL := [(.int v7)]) (rest := []) (lenOf own_pd3 rfl) rfl (by show 2 * 0 + _ ≤ _; exact Nat.le_of_eq rfl) (hb hby at_98) (fun _ _ => ⟨rfl, rfl, (by decide : 4 + 0 ≤ _), (by decide : 36 + 0 ≤ _)⟩)
  dsimp only [Pt.U, Pt.locs, Pt.cells, Pt.slots] at X26 l26 y26 z26 st26 hQ26
  subst l26 y26 z26
  obtain ⟨rfl, Nq26, Kq26, ft26⟩ := hQ26
  have N26 := Fr.app N25 Nq26
  have Z26 : n0 ≤ T26.heap.size := Nat.le_trans Z25 Kq26.1
  have Eq26 := ft26.1
  have go27 : own_go p e below (s₁.setTop (entryFrame m #[(.int p1), (.int p2), (.int p3), (.int p4), (.int p5), (.int p6)] maxLocals)) (T26.setTop (mkF m 101 #[.val (.int p1), .val (.int p2), .val (.int p3), .val (.int p4), .val (.int p5), .val (.int p6), .val (.int v1), .val (.int v2), .val (.int v3), .val (.int v5), .val (.int v6), .val (.int v7), .val (.ref b9), .val (.ref b19), .unset, .unset, .unset] [])) := by
    intro ttx ktx
    refine go16 ttx ?_
    show Steps p.tables e below (T15.setTop (mkF m 65 #[.val (.int p1), .val (.int p2), .val (.int p3), .val (.int p4), .val (.int p5), .val (.int p6), .val (.int v1), .val (.int v2), .val (.int v3), .val (.int v5), .val (.int v6), .val (.int v7), .val (.ref b9), .unset, .unset, .unset, .unset] [(.int v3), (.ref b9)])) _
    refine st17.trans ?_
    show Steps p.tables e below (T17.setTop (mkF m 68 #[.val (.int p1), .val (.int p2), .val (.int p3), .val (.int p4), .val (.int p5), .val (.int p6), .val (.int v1), .val (.int v2), .val (.int v3), .val (.int v5), .val (.int v6), .val (.int v7), .val (.ref b9), .unset, .unset, .unset, .unset] [])) _
    refine XS.aload X17.here hx rfl (hb hby at_68) rfl rfl ?_
    show Steps p.tables e below (T17.setTop (mkF m 70 #[.val (.int p1), .val (.int p2), .val (.int p3), .val (.int p4), .val (.int p5), .val (.int p6), .val (.int v1), .val (.int v2), .val (.int v3), .val (.int v5), .val (.int v6), .val (.int v7), .val (.ref b9), .unset, .unset, .unset, .unset] [(.ref b9)])) _
    refine XS.iload X17.here hx rfl (hb hby at_70) rfl ?_
    show Steps p.tables e below (T17.setTop (mkF m 72 #[.val (.int p1), .val (.int p2), .val (.int p3), .val (.int p4), .val (.int p5), .val (.int p6), .val (.int v1), .val (.int v2), .val (.int v3), .val (.int v5), .val (.int v6), .val (.int v7), .val (.ref b9), .unset, .unset, .unset, .unset] [(.int v5), (.ref b9)])) _
    refine st18.trans ?_
    show Steps p.tables e below (T18.setTop (mkF m 75 #[.val (.int p1), .val (.int p2), .val (.int p3), .val (.int p4), .val (.int p5), .val (.int p6), .val (.int v1), .val (.int v2), .val (.int v3), .val (.int v5), .val (.int v6), .val (.int v7), .val (.ref b9), .unset, .unset, .unset, .unset] [])) _
    refine XS.aload X18.here hx rfl (hb hby at_75) rfl rfl ?_
    show Steps p.tables e below (T18.setTop (mkF m 77 #[.val (.int p1), .val (.int p2), .val (.int p3), .val (.int p4), .val (.int p5), .val (.int p6), .val (.int v1), .val (.int v2), .val (.int v3), .val (.int v5), .val (.int v6), .val (.int v7), .val (.ref b9), .unset, .unset, .unset, .unset] [(.ref b9)])) _
    refine st19.trans ?_
    show Steps p.tables e below (T19.setTop (mkF m 80 #[.val (.int p1), .val (.int p2), .val (.int p3), .val (.int p4), .val (.int p5), .val (.int p6), .val (.int v1), .val (.int v2), .val (.int v3), .val (.int v5), .val (.int v6), .val (.int v7), .val (.ref b9), .unset, .unset, .unset, .unset] [(.ref b19)])) _
    refine XS.astore X19.here hx rfl (hb hby at_80) rfl rfl (l' := #[.val (.int p1), .val (.int p2), .val (.int p3), .val (.int p4), .val (.int p5), .val (.int p6), .val (.int v1), .val (.int v2), .val (.int v3), .val (.int v5), .val (.int v6), .val (.int v7), .val (.ref b9), .val (.ref b19), .unset, .unset, .unset]) rfl ?_
    show Steps p.tables e below (T19.setTop (mkF m 82 #[.val (.int p1), .val (.int p2), .val (.int p3), .val (.int p4), .val (.int p5), .val (.int p6), .val (.int v1), .val (.int v2), .val (.int v3), .val (.int v5), .val (.int v6), .val (.int v7), .val (.ref b9), .val (.ref b19), .unset, .unset, .unset] [])) _
    refine XS.aload X19.here hx rfl (hb hby at_82) rfl rfl ?_
    show Steps p.tables e below (T19.setTop (mkF m 84 #[.val (.int p1), .val (.int p2), .val (.int p3), .val (.int p4), .val (.int p5), .val (.int p6), .val (.int v1), .val (.int v2), .val (.int v3), .val (.int v5), .val (.int v6), .val (.int v7), .val (.ref b9), .val (.ref b19), .unset, .unset, .unset] [(.ref b9)])) _
    refine st23.trans ?_
    show Steps p.tables e below (T23.setTop (mkF m 87 #[.val (.int p1), .val (.int p2), .val (.int p3), .val (.int p4), .val (.int p5), .val (.int p6), .val (.int v1), .val (.int v2), .val (.int v3), .val (.int v5), .val (.int v6), .val (.int v7), .val (.ref b9), .val (.ref b19), .unset, .unset, .unset] [])) _
    refine XS.aload X23.here hx rfl (hb hby at_87) rfl rfl ?_
    show Steps p.tables e below (T23.setTop (mkF m 89 #[.val (.int p1), .val (.int p2), .val (.int p3), .val (.int p4), .val (.int p5), .val (.int p6), .val (.int v1), .val (.int v2), .val (.int v3), .val (.int v5), .val (.int v6), .val (.int v7), .val (.ref b9), .val (.ref b19), .unset, .unset, .unset] [(.ref b9)])) _
    refine XS.iload X23.here hx rfl (hb hby at_89) rfl ?_
    show Steps p.tables e below (T23.setTop (mkF m 91 #[.val (.int p1), .val (.int p2), .val (.int p3), .val (.int p4), .val (.int p5), .val (.int p6), .val (.int v1), .val (.int v2), .val (.int v3), .val (.int v5), .val (.int v6), .val (.int v7), .val (.ref b9), .val (.ref b19), .unset, .unset, .unset] [(.int v6), (.ref b9)])) _
    refine st25.trans ?_
    show Steps p.tables e below (T25.setTop (mkF m 94 #[.val (.int p1), .val (.int p2), .val (.int p3), .val (.int p4), .val (.int p5), .val (.int p6), .val (.int v1), .val (.int v2), .val (.int v3), .val (.int v5), .val (.int v6), .val (.int v7), .val (.ref b9), .val (.ref b19), .unset, .unset, .unset] [])) _
    refine XS.aload X25.here hx rfl (hb hby at_94) rfl rfl ?_
    show Steps p.tables e below (T25.setTop (mkF m 96 #[.val (.int p1), .val (.int p2), .val (.int p3), .val (.int p4), .val (.int p5), .val (.int p6), .val (.int v1), .val (.int v2), .val (.int v3), .val (.int v5), .val (.int v6), .val (.int v7), .val (.ref b9), .val (.ref b19), .unset, .unset, .unset] [(.ref b9)])) _
    refine XS.iload X25.here hx rfl (hb hby at_96) rfl ?_
    show Steps p.tables e below (T25.setTop (mkF m 98 #[.val (.int p1), .val (.int p2), .val (.int p3), .val (.int p4), .val (.int p5), .val (.int p6), .val (.int v1), .val (.int v2), .val (.int v3), .val (.int v5), .val (.int v6), .val (.int v7), .val (.ref b9), .val (.ref b19), .unset, .unset, .unset] [(.int v7), (.ref b9)])) _
    refine st26.trans ?_
    exact ktx
  obtain ⟨cq28, kq28, q28a, q28b, q28c⟩ := isOf hZ rfl Eq26
  obtain ⟨_, _, ⟨T28, L28, k28, n28⟩, -, X28, ⟨Lc28, hQ28, l28, y28, z28⟩, st28⟩ := X26.virtualBack hx (y := (⟨"com/example/linkwright/linkwright/link/FoundTargets", "ascending", "()[I"⟩ : MethodName)) (z := (⟨"com/example/linkwright/linkwright/link/FoundTargets", "ascending", "()[I"⟩ : MethodName)) hown (mvT hZ (hw _ (List.mem_of_getElem? (i := 28) rfl))) (mvT hZ (hw _ (List.mem_of_getElem? (i := 29) rfl))) (notFace_of_selects (args := #[]) (mvT hZ (hw _ (List.mem_of_getElem? (i := 31) rfl)))) (mvT hZ (hw _ (List.mem_of_getElem? (i := 31) rfl))) (mvT hZ (hw _ (List.mem_of_getElem? (i := 30) rfl))) (by decide) (backOf (W := 0) (rm5 l Z a0 hw [] b9 ts10 tf10 (4 : Int32) (2 : Int32) (own_ins (own_ins ([] : List Int32) v6) v7) T26.heap n0 Z26 ne11 ne12 nt10 ft26 hn8) hZ (hw _ (List.mem_of_getElem? (i := 32) rfl)) (hw _ (List.mem_of_getElem? (i := 2) rfl)) (by decide) (by decide)) q28a q28c (g := (mkF m 103 #[.val (.int p1), .val (.int p2), .val (.int p3), .val (.int p4), .val (.int p5), .val (.int p6), .val (.int v1), .val (.int v2), .val (.int v3), .val (.int v5), .val (.int v6), .val (.int v7), .val (.ref b9), .val (.ref b19), .unset, .unset, .unset] [(.ref b9)])) rfl (by rw [hml]; rfl) (Steps.refl _) (argsL := []) (rest := []) (lenOf own_pd5 rfl) rfl (by show 2 * 0 + _ ≤ _; exact Nat.le_of_eq rfl) (hb hby at_103) (fun _ _ => ⟨rfl, rfl, (by decide : 4 + 1 ≤ _), (by decide : 36 + 16 ≤ _)⟩)
  dsimp only [Pt.U, Pt.locs, Pt.cells, Pt.slots] at X28 l28 y28 z28 st28 hQ28
  subst l28 y28 z28
  obtain ⟨b28, kb28, ys28, rfl, Nq28, Kq28, sq28, Vq28, hp28, hw28⟩ := hQ28
  have N28 := Fr.app N26 Nq28
  have ne29 : b9 ≠ b28 := Nat.ne_of_lt (Nat.lt_of_lt_of_le Eq26.lt sq28)
  have f31 := (((Vq19.keep Kq23 (ninS (Ne.symm ne20) nin0)).keep Kq25 (ninS (Ne.symm ne20) (ninS (Ne.symm ne21) (ninS (Ne.symm ne22) nin0)))).keep Kq26 (ninS (Ne.symm ne20) (ninS (Ne.symm ne21) (ninS (Ne.symm ne22) nin0))))
  have ne30 : b19 ≠ b28 := Nat.ne_of_lt (Nat.lt_of_lt_of_le f31.lt sq28)
  have ne32 : ts10 ≠ b28 := own_ne_s ft26 sq28
  have ne33 : tf10 ≠ b28 := own_ne_f ft26 sq28
  have g_b28 : n0 ≤ b28 := Nat.le_trans Z26 sq28
  have Z28 : n0 ≤ T28.heap.size := Nat.le_trans Z26 Kq28.1
  have ft28 := own_ft.keep0 ft26 Kq28
  have go34 : own_go p e below (s₁.setTop (entryFrame m #[(.int p1), (.int p2), (.int p3), (.int p4), (.int p5), (.int p6)] maxLocals)) (T28.setTop (mkF m 123 #[.val (.int p1), .val (.int p2), .val (.int p3), .val (.int p4), .val (.int p5), .val (.int p6), .val (.int v1), .val (.int v2), .val (.int v3), .val (.int v5), .val (.int v6), .val (.int v7), .val (.ref b9), .val (.ref b19), .val (.ref b28), .unset, .unset] [(.int (1 : Int32)), (.int ((((1 : Int32) <<< (v1 &&& 31)) ||| ((1 : Int32) <<< (v2 &&& 31))) ||| ((1 : Int32) <<< (v3 &&& 31))))])) := by
    intro ttx ktx
    refine go27 ttx ?_
    show Steps p.tables e below (T26.setTop (mkF m 101 #[.val (.int p1), .val (.int p2), .val (.int p3), .val (.int p4), .val (.int p5), .val (.int p6), .val (.int v1), .val (.int v2), .val (.int v3), .val (.int v5), .val (.int v6), .val (.int v7), .val (.ref b9), .val (.ref b19), .unset, .unset, .unset] [])) _
    refine XS.aload X26.here hx rfl (hb hby at_101) rfl rfl ?_
    show Steps p.tables e below (T26.setTop (mkF m 103 #[.val (.int p1), .val (.int p2), .val (.int p3), .val (.int p4), .val (.int p5), .val (.int p6), .val (.int v1), .val (.int v2), .val (.int v3), .val (.int v5), .val (.int v6), .val (.int v7), .val (.ref b9), .val (.ref b19), .unset, .unset, .unset] [(.ref b9)])) _
    refine st28.trans ?_
    show Steps p.tables e below (T28.setTop (mkF m 106 #[.val (.int p1), .val (.int p2), .val (.int p3), .val (.int p4), .val (.int p5), .val (.int p6), .val (.int v1), .val (.int v2), .val (.int v3), .val (.int v5), .val (.int v6), .val (.int v7), .val (.ref b9), .val (.ref b19), .unset, .unset, .unset] [(.ref b28)])) _
    refine XS.astore X28.here hx rfl (hb hby at_106) rfl rfl (l' := #[.val (.int p1), .val (.int p2), .val (.int p3), .val (.int p4), .val (.int p5), .val (.int p6), .val (.int v1), .val (.int v2), .val (.int v3), .val (.int v5), .val (.int v6), .val (.int v7), .val (.ref b9), .val (.ref b19), .val (.ref b28), .unset, .unset]) rfl ?_
    show Steps p.tables e below (T28.setTop (mkF m 108 #[.val (.int p1), .val (.int p2), .val (.int p3), .val (.int p4), .val (.int p5), .val (.int p6), .val (.int v1), .val (.int v2), .val (.int v3), .val (.int v5), .val (.int v6), .val (.int v7), .val (.ref b9), .val (.ref b19), .val (.ref b28), .unset, .unset] [])) _
    refine XS.iconst X28.here hx rfl (hb hby at_108) ?_
    show Steps p.tables e below (T28.setTop (mkF m 109 #[.val (.int p1), .val (.int p2), .val (.int p3), .val (.int p4), .val (.int p5), .val (.int p6), .val (.int v1), .val (.int v2), .val (.int v3), .val (.int v5), .val (.int v6), .val (.int v7), .val (.ref b9), .val (.ref b19), .val (.ref b28), .unset, .unset] [(.int (1 : Int32))])) _
    refine XS.iload X28.here hx rfl (hb hby at_109) rfl ?_
    show Steps p.tables e below (T28.setTop (mkF m 111 #[.val (.int p1), .val (.int p2), .val (.int p3), .val (.int p4), .val (.int p5), .val (.int p6), .val (.int v1), .val (.int v2), .val (.int v3), .val (.int v5), .val (.int v6), .val (.int v7), .val (.ref b9), .val (.ref b19), .val (.ref b28), .unset, .unset] [(.int v1), (.int (1 : Int32))])) _
    refine XS.ishl X28.here hx rfl (hb hby at_111) rfl ?_
    show Steps p.tables e below (T28.setTop (mkF m 112 #[.val (.int p1), .val (.int p2), .val (.int p3), .val (.int p4), .val (.int p5), .val (.int p6), .val (.int v1), .val (.int v2), .val (.int v3), .val (.int v5), .val (.int v6), .val (.int v7), .val (.ref b9), .val (.ref b19), .val (.ref b28), .unset, .unset] [(.int ((1 : Int32) <<< (v1 &&& 31)))])) _
    refine XS.iconst X28.here hx rfl (hb hby at_112) ?_
    show Steps p.tables e below (T28.setTop (mkF m 113 #[.val (.int p1), .val (.int p2), .val (.int p3), .val (.int p4), .val (.int p5), .val (.int p6), .val (.int v1), .val (.int v2), .val (.int v3), .val (.int v5), .val (.int v6), .val (.int v7), .val (.ref b9), .val (.ref b19), .val (.ref b28), .unset, .unset] [(.int (1 : Int32)), (.int ((1 : Int32) <<< (v1 &&& 31)))])) _
    refine XS.iload X28.here hx rfl (hb hby at_113) rfl ?_
    show Steps p.tables e below (T28.setTop (mkF m 115 #[.val (.int p1), .val (.int p2), .val (.int p3), .val (.int p4), .val (.int p5), .val (.int p6), .val (.int v1), .val (.int v2), .val (.int v3), .val (.int v5), .val (.int v6), .val (.int v7), .val (.ref b9), .val (.ref b19), .val (.ref b28), .unset, .unset] [(.int v2), (.int (1 : Int32)), (.int ((1 : Int32) <<< (v1 &&& 31)))])) _
    refine XS.ishl X28.here hx rfl (hb hby at_115) rfl ?_
    show Steps p.tables e below (T28.setTop (mkF m 116 #[.val (.int p1), .val (.int p2), .val (.int p3), .val (.int p4), .val (.int p5), .val (.int p6), .val (.int v1), .val (.int v2), .val (.int v3), .val (.int v5), .val (.int v6), .val (.int v7), .val (.ref b9), .val (.ref b19), .val (.ref b28), .unset, .unset] [(.int ((1 : Int32) <<< (v2 &&& 31))), (.int ((1 : Int32) <<< (v1 &&& 31)))])) _
    refine XS.ior X28.here hx rfl (hb hby at_116) rfl ?_
    show Steps p.tables e below (T28.setTop (mkF m 117 #[.val (.int p1), .val (.int p2), .val (.int p3), .val (.int p4), .val (.int p5), .val (.int p6), .val (.int v1), .val (.int v2), .val (.int v3), .val (.int v5), .val (.int v6), .val (.int v7), .val (.ref b9), .val (.ref b19), .val (.ref b28), .unset, .unset] [(.int (((1 : Int32) <<< (v1 &&& 31)) ||| ((1 : Int32) <<< (v2 &&& 31))))])) _
    refine XS.iconst X28.here hx rfl (hb hby at_117) ?_
    show Steps p.tables e below (T28.setTop (mkF m 118 #[.val (.int p1), .val (.int p2), .val (.int p3), .val (.int p4), .val (.int p5), .val (.int p6), .val (.int v1), .val (.int v2), .val (.int v3), .val (.int v5), .val (.int v6), .val (.int v7), .val (.ref b9), .val (.ref b19), .val (.ref b28), .unset, .unset] [(.int (1 : Int32)), (.int (((1 : Int32) <<< (v1 &&& 31)) ||| ((1 : Int32) <<< (v2 &&& 31))))])) _
    refine XS.iload X28.here hx rfl (hb hby at_118) rfl ?_
    show Steps p.tables e below (T28.setTop (mkF m 120 #[.val (.int p1), .val (.int p2), .val (.int p3), .val (.int p4), .val (.int p5), .val (.int p6), .val (.int v1), .val (.int v2), .val (.int v3), .val (.int v5), .val (.int v6), .val (.int v7), .val (.ref b9), .val (.ref b19), .val (.ref b28), .unset, .unset] [(.int v3), (.int (1 : Int32)), (.int (((1 : Int32) <<< (v1 &&& 31)) ||| ((1 : Int32) <<< (v2 &&& 31))))])) _
    refine XS.ishl X28.here hx rfl (hb hby at_120) rfl ?_
    show Steps p.tables e below (T28.setTop (mkF m 121 #[.val (.int p1), .val (.int p2), .val (.int p3), .val (.int p4), .val (.int p5), .val (.int p6), .val (.int v1), .val (.int v2), .val (.int v3), .val (.int v5), .val (.int v6), .val (.int v7), .val (.ref b9), .val (.ref b19), .val (.ref b28), .unset, .unset] [(.int ((1 : Int32) <<< (v3 &&& 31))), (.int (((1 : Int32) <<< (v1 &&& 31)) ||| ((1 : Int32) <<< (v2 &&& 31))))])) _
    refine XS.ior X28.here hx rfl (hb hby at_121) rfl ?_
    show Steps p.tables e below (T28.setTop (mkF m 122 #[.val (.int p1), .val (.int p2), .val (.int p3), .val (.int p4), .val (.int p5), .val (.int p6), .val (.int v1), .val (.int v2), .val (.int v3), .val (.int v5), .val (.int v6), .val (.int v7), .val (.ref b9), .val (.ref b19), .val (.ref b28), .unset, .unset] [(.int ((((1 : Int32) <<< (v1 &&& 31)) ||| ((1 : Int32) <<< (v2 &&& 31))) ||| ((1 : Int32) <<< (v3 &&& 31))))])) _
    refine XS.iconst X28.here hx rfl (hb hby at_122) ?_
    exact ktx
  obtain ⟨v35, hv_v35⟩ : ∃ z : Int32, z = (((((1 : Int32) <<< (v1 &&& 31)) ||| ((1 : Int32) <<< (v2 &&& 31))) ||| ((1 : Int32) <<< (v3 &&& 31))) ||| ((1 : Int32) <<< (v5 &&& 31))) := ⟨_, rfl⟩
  obtain ⟨v36, hv_v36⟩ : ∃ z : Int32, z = (((1 : Int32) <<< (v6 &&& 31)) ||| ((1 : Int32) <<< (v7 &&& 31))) := ⟨_, rfl⟩
  have go37 : own_go p e below (s₁.setTop (entryFrame m #[(.int p1), (.int p2), (.int p3), (.int p4), (.int p5), (.int p6)] maxLocals)) (T28.setTop (mkF m 142 #[.val (.int p1), .val (.int p2), .val (.int p3), .val (.int p4), .val (.int p5), .val (.int p6), .val (.int v1), .val (.int v2), .val (.int v3), .val (.int v5), .val (.int v6), .val (.int v7), .val (.ref b9), .val (.ref b19), .val (.ref b28), .val (.int v35), .val (.int v36)] [(.ref b19)])) := by
    intro ttx ktx
    refine go34 ttx ?_
    show Steps p.tables e below (T28.setTop (mkF m 123 #[.val (.int p1), .val (.int p2), .val (.int p3), .val (.int p4), .val (.int p5), .val (.int p6), .val (.int v1), .val (.int v2), .val (.int v3), .val (.int v5), .val (.int v6), .val (.int v7), .val (.ref b9), .val (.ref b19), .val (.ref b28), .unset, .unset] [(.int (1 : Int32)), (.int ((((1 : Int32) <<< (v1 &&& 31)) ||| ((1 : Int32) <<< (v2 &&& 31))) ||| ((1 : Int32) <<< (v3 &&& 31))))])) _
    refine XS.iload X28.here hx rfl (hb hby at_123) rfl ?_
    show Steps p.tables e below (T28.setTop (mkF m 125 #[.val (.int p1), .val (.int p2), .val (.int p3), .val (.int p4), .val (.int p5), .val (.int p6), .val (.int v1), .val (.int v2), .val (.int v3), .val (.int v5), .val (.int v6), .val (.int v7), .val (.ref b9), .val (.ref b19), .val (.ref b28), .unset, .unset] [(.int v5), (.int (1 : Int32)), (.int ((((1 : Int32) <<< (v1 &&& 31)) ||| ((1 : Int32) <<< (v2 &&& 31))) ||| ((1 : Int32) <<< (v3 &&& 31))))])) _
    refine XS.ishl X28.here hx rfl (hb hby at_125) rfl ?_
    show Steps p.tables e below (T28.setTop (mkF m 126 #[.val (.int p1), .val (.int p2), .val (.int p3), .val (.int p4), .val (.int p5), .val (.int p6), .val (.int v1), .val (.int v2), .val (.int v3), .val (.int v5), .val (.int v6), .val (.int v7), .val (.ref b9), .val (.ref b19), .val (.ref b28), .unset, .unset] [(.int ((1 : Int32) <<< (v5 &&& 31))), (.int ((((1 : Int32) <<< (v1 &&& 31)) ||| ((1 : Int32) <<< (v2 &&& 31))) ||| ((1 : Int32) <<< (v3 &&& 31))))])) _
    refine XS.ior X28.here hx rfl (hb hby at_126) rfl ?_
    show Steps p.tables e below (T28.setTop (mkF m 127 #[.val (.int p1), .val (.int p2), .val (.int p3), .val (.int p4), .val (.int p5), .val (.int p6), .val (.int v1), .val (.int v2), .val (.int v3), .val (.int v5), .val (.int v6), .val (.int v7), .val (.ref b9), .val (.ref b19), .val (.ref b28), .unset, .unset] [(.int (((((1 : Int32) <<< (v1 &&& 31)) ||| ((1 : Int32) <<< (v2 &&& 31))) ||| ((1 : Int32) <<< (v3 &&& 31))) ||| ((1 : Int32) <<< (v5 &&& 31))))])) _
    rw [← hv_v35]
    show Steps p.tables e below (T28.setTop (mkF m 127 #[.val (.int p1), .val (.int p2), .val (.int p3), .val (.int p4), .val (.int p5), .val (.int p6), .val (.int v1), .val (.int v2), .val (.int v3), .val (.int v5), .val (.int v6), .val (.int v7), .val (.ref b9), .val (.ref b19), .val (.ref b28), .unset, .unset] [(.int v35)])) _
    refine XS.istore X28.here hx rfl (hb hby at_127) rfl (l' := #[.val (.int p1), .val (.int p2), .val (.int p3), .val (.int p4), .val (.int p5), .val (.int p6), .val (.int v1), .val (.int v2), .val (.int v3), .val (.int v5), .val (.int v6), .val (.int v7), .val (.ref b9), .val (.ref b19), .val (.ref b28), .val (.int v35), .unset]) rfl ?_
    show Steps p.tables e below (T28.setTop (mkF m 129 #[.val (.int p1), .val (.int p2), .val (.int p3), .val (.int p4), .val (.int p5), .val (.int p6), .val (.int v1), .val (.int v2), .val (.int v3), .val (.int v5), .val (.int v6), .val (.int v7), .val (.ref b9), .val (.ref b19), .val (.ref b28), .val (.int v35), .unset] [])) _
    refine XS.iconst X28.here hx rfl (hb hby at_129) ?_
    show Steps p.tables e below (T28.setTop (mkF m 130 #[.val (.int p1), .val (.int p2), .val (.int p3), .val (.int p4), .val (.int p5), .val (.int p6), .val (.int v1), .val (.int v2), .val (.int v3), .val (.int v5), .val (.int v6), .val (.int v7), .val (.ref b9), .val (.ref b19), .val (.ref b28), .val (.int v35), .unset] [(.int (1 : Int32))])) _
    refine XS.iload X28.here hx rfl (hb hby at_130) rfl ?_
    show Steps p.tables e below (T28.setTop (mkF m 132 #[.val (.int p1), .val (.int p2), .val (.int p3), .val (.int p4), .val (.int p5), .val (.int p6), .val (.int v1), .val (.int v2), .val (.int v3), .val (.int v5), .val (.int v6), .val (.int v7), .val (.ref b9), .val (.ref b19), .val (.ref b28), .val (.int v35), .unset] [(.int v6), (.int (1 : Int32))])) _
    refine XS.ishl X28.here hx rfl (hb hby at_132) rfl ?_
    show Steps p.tables e below (T28.setTop (mkF m 133 #[.val (.int p1), .val (.int p2), .val (.int p3), .val (.int p4), .val (.int p5), .val (.int p6), .val (.int v1), .val (.int v2), .val (.int v3), .val (.int v5), .val (.int v6), .val (.int v7), .val (.ref b9), .val (.ref b19), .val (.ref b28), .val (.int v35), .unset] [(.int ((1 : Int32) <<< (v6 &&& 31)))])) _
    refine XS.iconst X28.here hx rfl (hb hby at_133) ?_
    show Steps p.tables e below (T28.setTop (mkF m 134 #[.val (.int p1), .val (.int p2), .val (.int p3), .val (.int p4), .val (.int p5), .val (.int p6), .val (.int v1), .val (.int v2), .val (.int v3), .val (.int v5), .val (.int v6), .val (.int v7), .val (.ref b9), .val (.ref b19), .val (.ref b28), .val (.int v35), .unset] [(.int (1 : Int32)), (.int ((1 : Int32) <<< (v6 &&& 31)))])) _
    refine XS.iload X28.here hx rfl (hb hby at_134) rfl ?_
    show Steps p.tables e below (T28.setTop (mkF m 136 #[.val (.int p1), .val (.int p2), .val (.int p3), .val (.int p4), .val (.int p5), .val (.int p6), .val (.int v1), .val (.int v2), .val (.int v3), .val (.int v5), .val (.int v6), .val (.int v7), .val (.ref b9), .val (.ref b19), .val (.ref b28), .val (.int v35), .unset] [(.int v7), (.int (1 : Int32)), (.int ((1 : Int32) <<< (v6 &&& 31)))])) _
    refine XS.ishl X28.here hx rfl (hb hby at_136) rfl ?_
    show Steps p.tables e below (T28.setTop (mkF m 137 #[.val (.int p1), .val (.int p2), .val (.int p3), .val (.int p4), .val (.int p5), .val (.int p6), .val (.int v1), .val (.int v2), .val (.int v3), .val (.int v5), .val (.int v6), .val (.int v7), .val (.ref b9), .val (.ref b19), .val (.ref b28), .val (.int v35), .unset] [(.int ((1 : Int32) <<< (v7 &&& 31))), (.int ((1 : Int32) <<< (v6 &&& 31)))])) _
    refine XS.ior X28.here hx rfl (hb hby at_137) rfl ?_
    show Steps p.tables e below (T28.setTop (mkF m 138 #[.val (.int p1), .val (.int p2), .val (.int p3), .val (.int p4), .val (.int p5), .val (.int p6), .val (.int v1), .val (.int v2), .val (.int v3), .val (.int v5), .val (.int v6), .val (.int v7), .val (.ref b9), .val (.ref b19), .val (.ref b28), .val (.int v35), .unset] [(.int (((1 : Int32) <<< (v6 &&& 31)) ||| ((1 : Int32) <<< (v7 &&& 31))))])) _
    rw [← hv_v36]
    show Steps p.tables e below (T28.setTop (mkF m 138 #[.val (.int p1), .val (.int p2), .val (.int p3), .val (.int p4), .val (.int p5), .val (.int p6), .val (.int v1), .val (.int v2), .val (.int v3), .val (.int v5), .val (.int v6), .val (.int v7), .val (.ref b9), .val (.ref b19), .val (.ref b28), .val (.int v35), .unset] [(.int v36)])) _
    refine XS.istore X28.here hx rfl (hb hby at_138) rfl (l' := #[.val (.int p1), .val (.int p2), .val (.int p3), .val (.int p4), .val (.int p5), .val (.int p6), .val (.int v1), .val (.int v2), .val (.int v3), .val (.int v5), .val (.int v6), .val (.int v7), .val (.ref b9), .val (.ref b19), .val (.ref b28), .val (.int v35), .val (.int v36)]) rfl ?_
    show Steps p.tables e below (T28.setTop (mkF m 140 #[.val (.int p1), .val (.int p2), .val (.int p3), .val (.int p4), .val (.int p5), .val (.int p6), .val (.int v1), .val (.int v2), .val (.int v3), .val (.int v5), .val (.int v6), .val (.int v7), .val (.ref b9), .val (.ref b19), .val (.ref b28), .val (.int v35), .val (.int v36)] [])) _
    refine XS.aload X28.here hx rfl (hb hby at_140) rfl rfl ?_
    exact ktx
  have f39 := (f31.keep Kq28 nin0)
  obtain ⟨_, _, ⟨T38, L38, k38, n38⟩, -, X38, ⟨Lc38, hQ38, l38, y38, z38⟩, st38⟩ := Jvm.LawKit.callS X28 hx (y := (⟨"com/example/linkwright/linkwright/link/FoundTargetsAddPinLaw", "same", "([II)Z"⟩ : MethodName)) hown (mvT hZ (hw _ (List.mem_of_getElem? (i := 67) rfl))) (mvT hZ (hw _ (List.mem_of_getElem? (i := 68) rfl))) (mvT hZ (hw _ (List.mem_of_getElem? (i := 69) rfl))) (mvT hZ (hw _ (List.mem_of_getElem? (i := 70) rfl))) (by decide) (backOf (W := 0) (rm12 l Z a0 hw [] b19 v35 kb19 (Int32.ofNat (own_ins (own_ins (own_ins (own_ins ([] : List Int32) v1) v2) v3) v5).length) ys19 T28.heap n0 Z28 f39 (congrArg Int32.ofNat hp19.length_eq.symm) (own_uniq hp19 hw19 (by rw [hv_v35]; exact own_four _ _ _ _ hf_v1 hf_v2 hf_v3 hf_v5))) hZ (hw _ (List.mem_of_getElem? (i := 70) rfl)) (hw _ (List.mem_of_getElem? (i := 69) rfl)) (by decide) (by decide)) (g := (mkF m 144 #[.val (.int p1), .val (.int p2), .val (.int p3), .val (.int p4), .val (.int p5), .val (.int p6), .val (.int v1), .val (.int v2), .val (.int v3), .val (.int v5), .val (.int v6), .val (.int v7), .val (.ref b9), .val (.ref b19), .val (.ref b28), .val (.int v35), .val (.int v36)] [(.int v35), (.ref b19)])) rfl (by rw [hml]; rfl) (argsL := [(.ref b19), (.int v35)]) (rest := []) (lenOf own_pd6 rfl) rfl (by show 2 * 0 + _ ≤ _; exact Nat.le_of_eq rfl) (hb hby at_144) (fun _ _ => ⟨rfl, rfl, (by decide : 5 + 1 ≤ _), (by decide : 52 + 4 ≤ _)⟩)
  dsimp only [Pt.U, Pt.locs, Pt.cells, Pt.slots] at X38 l38 y38 z38 st38 hQ38
  subst l38 y38 z38
  obtain ⟨rfl, Nq38, Kq38⟩ := hQ38
  have N38 := Fr.app N28 Nq38
  have Z38 : n0 ≤ T38.heap.size := Nat.le_trans Z28 Kq38.1
  have hc40_147 : ¬ ((1 : Int32) = (0 : Int32)) := (by decide)
  have f42 := (Vq28.keep Kq38 nin0)
  obtain ⟨_, _, ⟨T41, L41, k41, n41⟩, -, X41, ⟨Lc41, hQ41, l41, y41, z41⟩, st41⟩ := Jvm.LawKit.callS X38 hx (y := (⟨"com/example/linkwright/linkwright/link/FoundTargetsAddPinLaw", "same", "([II)Z"⟩ : MethodName)) hown (mvT hZ (hw _ (List.mem_of_getElem? (i := 67) rfl))) (mvT hZ (hw _ (List.mem_of_getElem? (i := 68) rfl))) (mvT hZ (hw _ (List.mem_of_getElem? (i := 69) rfl))) (mvT hZ (hw _ (List.mem_of_getElem? (i := 70) rfl))) (by decide) (backOf (W := 0) (rm12 l Z a0 hw [] b28 v36 kb28 (Int32.ofNat (own_ins (own_ins ([] : List Int32) v6) v7).length) ys28 T38.heap n0 Z38 f42 (congrArg Int32.ofNat hp28.length_eq.symm) (own_uniq hp28 hw28 (by rw [hv_v36]; exact own_two _ _ hf_v6 hf_v7))) hZ (hw _ (List.mem_of_getElem? (i := 70) rfl)) (hw _ (List.mem_of_getElem? (i := 69) rfl)) (by decide) (by decide)) (g := (mkF m 154 #[.val (.int p1), .val (.int p2), .val (.int p3), .val (.int p4), .val (.int p5), .val (.int p6), .val (.int v1), .val (.int v2), .val (.int v3), .val (.int v5), .val (.int v6), .val (.int v7), .val (.ref b9), .val (.ref b19), .val (.ref b28), .val (.int v35), .val (.int v36)] [(.int v36), (.ref b28)])) rfl (by rw [hml]; rfl) (argsL := [(.ref b28), (.int v36)]) (rest := []) (lenOf own_pd6 rfl) rfl (by show 2 * 0 + _ ≤ _; exact Nat.le_of_eq rfl) (hb hby at_154) (fun _ _ => ⟨rfl, rfl, (by decide : 6 + 1 ≤ _), (by decide : 56 + 4 ≤ _)⟩)
  dsimp only [Pt.U, Pt.locs, Pt.cells, Pt.slots] at X41 l41 y41 z41 st41 hQ41
  subst l41 y41 z41
  obtain ⟨rfl, Nq41, Kq41⟩ := hQ41
  have N41 := Fr.app N38 Nq41
  have Z41 : n0 ≤ T41.heap.size := Nat.le_trans Z38 Kq41.1
  have hc43_157 : ¬ ((1 : Int32) = (0 : Int32)) := (by decide)
  have go44 : own_go p e below (s₁.setTop (entryFrame m #[(.int p1), (.int p2), (.int p3), (.int p4), (.int p5), (.int p6)] maxLocals)) (T41.setTop (mkF m 165 #[.val (.int p1), .val (.int p2), .val (.int p3), .val (.int p4), .val (.int p5), .val (.int p6), .val (.int v1), .val (.int v2), .val (.int v3), .val (.int v5), .val (.int v6), .val (.int v7), .val (.ref b9), .val (.ref b19), .val (.ref b28), .val (.int v35), .val (.int v36)] [(.int (1 : Int32))])) := by
    intro ttx ktx
    refine go37 ttx ?_
    show Steps p.tables e below (T28.setTop (mkF m 142 #[.val (.int p1), .val (.int p2), .val (.int p3), .val (.int p4), .val (.int p5), .val (.int p6), .val (.int v1), .val (.int v2), .val (.int v3), .val (.int v5), .val (.int v6), .val (.int v7), .val (.ref b9), .val (.ref b19), .val (.ref b28), .val (.int v35), .val (.int v36)] [(.ref b19)])) _
    refine XS.iload X28.here hx rfl (hb hby at_142) rfl ?_
    show Steps p.tables e below (T28.setTop (mkF m 144 #[.val (.int p1), .val (.int p2), .val (.int p3), .val (.int p4), .val (.int p5), .val (.int p6), .val (.int v1), .val (.int v2), .val (.int v3), .val (.int v5), .val (.int v6), .val (.int v7), .val (.ref b9), .val (.ref b19), .val (.ref b28), .val (.int v35), .val (.int v36)] [(.int v35), (.ref b19)])) _
    refine st38 _ ?_
    show Steps p.tables e below (T38.setTop (mkF m 147 #[.val (.int p1), .val (.int p2), .val (.int p3), .val (.int p4), .val (.int p5), .val (.int p6), .val (.int v1), .val (.int v2), .val (.int v3), .val (.int v5), .val (.int v6), .val (.int v7), .val (.ref b9), .val (.ref b19), .val (.ref b28), .val (.int v35), .val (.int v36)] [(.int (1 : Int32))])) _
    refine XS.ifNo X38.here hx rfl (hb hby at_147) rfl ((if0 _ _).trans (feq hc40_147).1) ?_
    show Steps p.tables e below (T38.setTop (mkF m 150 #[.val (.int p1), .val (.int p2), .val (.int p3), .val (.int p4), .val (.int p5), .val (.int p6), .val (.int v1), .val (.int v2), .val (.int v3), .val (.int v5), .val (.int v6), .val (.int v7), .val (.ref b9), .val (.ref b19), .val (.ref b28), .val (.int v35), .val (.int v36)] [])) _
    refine XS.aload X38.here hx rfl (hb hby at_150) rfl rfl ?_
    show Steps p.tables e below (T38.setTop (mkF m 152 #[.val (.int p1), .val (.int p2), .val (.int p3), .val (.int p4), .val (.int p5), .val (.int p6), .val (.int v1), .val (.int v2), .val (.int v3), .val (.int v5), .val (.int v6), .val (.int v7), .val (.ref b9), .val (.ref b19), .val (.ref b28), .val (.int v35), .val (.int v36)] [(.ref b28)])) _
    refine XS.iload X38.here hx rfl (hb hby at_152) rfl ?_
    show Steps p.tables e below (T38.setTop (mkF m 154 #[.val (.int p1), .val (.int p2), .val (.int p3), .val (.int p4), .val (.int p5), .val (.int p6), .val (.int v1), .val (.int v2), .val (.int v3), .val (.int v5), .val (.int v6), .val (.int v7), .val (.ref b9), .val (.ref b19), .val (.ref b28), .val (.int v35), .val (.int v36)] [(.int v36), (.ref b28)])) _
    refine st41 _ ?_
    show Steps p.tables e below (T41.setTop (mkF m 157 #[.val (.int p1), .val (.int p2), .val (.int p3), .val (.int p4), .val (.int p5), .val (.int p6), .val (.int v1), .val (.int v2), .val (.int v3), .val (.int v5), .val (.int v6), .val (.int v7), .val (.ref b9), .val (.ref b19), .val (.ref b28), .val (.int v35), .val (.int v36)] [(.int (1 : Int32))])) _
    refine XS.ifNo X41.here hx rfl (hb hby at_157) rfl ((if0 _ _).trans (feq hc43_157).1) ?_
    show Steps p.tables e below (T41.setTop (mkF m 160 #[.val (.int p1), .val (.int p2), .val (.int p3), .val (.int p4), .val (.int p5), .val (.int p6), .val (.int v1), .val (.int v2), .val (.int v3), .val (.int v5), .val (.int v6), .val (.int v7), .val (.ref b9), .val (.ref b19), .val (.ref b28), .val (.int v35), .val (.int v36)] [])) _
    refine XS.iconst X41.here hx rfl (hb hby at_160) ?_
    show Steps p.tables e below (T41.setTop (mkF m 161 #[.val (.int p1), .val (.int p2), .val (.int p3), .val (.int p4), .val (.int p5), .val (.int p6), .val (.int v1), .val (.int v2), .val (.int v3), .val (.int v5), .val (.int v6), .val (.int v7), .val (.ref b9), .val (.ref b19), .val (.ref b28), .val (.int v35), .val (.int v36)] [(.int (1 : Int32))])) _
    refine XS.goto X41.here hx rfl (pc0 := 161) (pc' := 165) rfl (hb hby at_161) (by decide) (by decide) ?_
    exact ktx
  obtain ⟨fs, hr, hrun, hended, hW, hsame⟩ := X41.leave (v := some (.int (1 : Int32))) (fun h => by rw [Bd.returns] at h; cases h)
  refine ⟨_, _, go44 _ ?_, hrun, hended, _, _, rfl, ?_, ⟨_, rfl⟩, hW, hsame.mono (by decide) (by decide)⟩
  · exact retN X41 hx (t := .boolean) Bd.returns (by simp) (hb hby at_165) hr
  · show Q0 Z p1 p2 p3 p4 p5 p6 h0 n0 _ T41.heap _
    exact ⟨rfl, N41⟩
set_option maxRecDepth 65536 in
set_option maxHeartbeats 40000000 in
theorem comes_1 {Post : Tables → Env → Array Value → State → Outcome → State → Prop} (hpost : ∀ tb e args s v u, (limb_1_1.after args s (.returned v) u = true ∧ limb_1_2.after args s (.returned v) u = true ∧ True) → FrameEnd s (.returned v) u (Jvm.fieldLocs frame_1_writes args s ++ Jvm.arrayLocs frame_1_arrays args s ++ Jvm.staticLocs frame_1_statics s) 24 128 → Post tb e args s (.returned v) u) :
    ArmFor flags0 classFile x code maxLocals ret World_1 tables_1 room_1 Calls_1 rest_1 Pre_1 Post := by
  intro l hfl _ _ p e ha hc hk s m args below hf hA hF happ hP
  obtain ⟨hcalls, hrest, hpre⟩ := hP
  obtain ⟨-, -, -, hnamed, -, -, -, hat⟩ := (Spec.applies_iff hf).mp happ
  obtain ⟨hg, hn⟩ := and_e (Cond.before_iff.mp (show (Jvm.Cond.and given_1 narrow_1).before args s = true from hpre))
  obtain ⟨ga0, gb0⟩ := and_e hg
  obtain ⟨ga1, gb1⟩ := and_e gb0
  obtain ⟨ga2, gb2⟩ := and_e gb1
  obtain ⟨ga3, gb3⟩ := and_e gb2
  obtain ⟨ga4, gb4⟩ := and_e gb3
  obtain ⟨ga5, gb5⟩ := and_e gb4
  obtain ⟨w0, w1, w2, w3, w4, w5, rfl⟩ : ∃ w0 w1 w2 w3 w4 w5 : Value, args = #[w0, w1, w2, w3, w4, w5] := by
    have hs : args.size = 6 := by simpa [Cond.value, given_1] using ga0
    obtain ⟨L⟩ := args
    match L, hs with
    | [w0, w1, w2, w3, w4, w5], _ => exact ⟨w0, w1, w2, w3, w4, w5, rfl⟩
  have hw := fun d (hd : d ∈ tables_1) => atoms_spec (ws := Jvm.Cond.code x code maxLocals ret :: tables_1) hat d (List.mem_cons_of_mem _ hd)
  have hfit : Fit s := fun {y c} hc i hi => by
    obtain ⟨ha, rfl⟩ := Array.getElem?_eq_some_iff.mp hc
    have q := List.all_eq_true.mp ((Array.all_eq_true_iff_forall_mem.mp hF) _ (Array.getElem_mem ha)) i (List.mem_range.mpr hi)
    simpa [Array.getElem?_eq_getElem hi] using q
  obtain ⟨i0, ei0⟩ := is_v ga1
  obtain rfl : w0 = (.int i0) := Option.some.inj ei0
  obtain ⟨i1, ei1⟩ := is_v ga2
  obtain rfl : w1 = (.int i1) := Option.some.inj ei1
  obtain ⟨i2, ei2⟩ := is_v ga3
  obtain rfl : w2 = (.int i2) := Option.some.inj ei2
  obtain ⟨i3, ei3⟩ := is_v ga4
  obtain rfl : w3 = (.int i3) := Option.some.inj ei3
  obtain ⟨i4, ei4⟩ := is_v ga5
  obtain rfl : w4 = (.int i4) := Option.some.inj ei4
  obtain ⟨i5, ei5⟩ := is_v gb5
  obtain rfl : w5 = (.int i5) := Option.some.inj ei5
  obtain ⟨n, o, h1, h2, h3, _, L, rfl, ⟨rfl, N⟩, hq⟩ := rm0 l s _ hw tables_1 i0 i1 i2 i3 i4 i5  s.heap s.heap.size (Nat.le_refl _)  p e ha hc hk s m _ below hf ((Spec.applies_iff_loose hf).mp happ).1 ⟨rfl, State.Warmed39.refl s, rfl⟩ trivial
  refine ⟨n, _, h1, h2, h3, hpost _ _ _ _ _ _ ⟨Cond.after_iff.mpr rfl, Cond.after_iff.mpr (eq_i res_at (Term.int_eval (1)) rfl), trivial⟩ ⟨hq.1, hq.2.1, (hq.2.2.sift fun y hy => Or.inr (N y hy)).mono (by decide) (by decide)⟩⟩
theorem main_1_1 : Claimed_1_1 := comes_1 fun _ _ _ _ _ _ h hF => ⟨h.1, hF⟩
theorem main_1_2 : Claimed_1_2 := comes_1 fun _ _ _ _ _ _ h hF => ⟨h.2.1, hF⟩
end Jvm.Pilot.@@N@@
namespace Jvm.Pilot.@@N@@
open Jvm Jvm.ClassFile Sem Op Lib Jvm.Free Jvm.Stand Jvm.Pilot.@@N@@.Jvm.D
/-! MADE BY PROGRAM (witnessworld.py) out of the Statement's table words and the real class files: 13 classes; the members and pool entries that the words name. The judged class is class 1, her method 1. -/
namespace start1
open Jvm.ClassFile
def u (s : String) : CpInfo := .utf8 (stringToUtf16 s)
/-- a pool by its gaps: so many unusable entries, then the entry; so many at the end -/
def gap : Nat → List CpInfo → List CpInfo
  | 0, r => r
  | n + 1, r => .unusable :: gap n r
def poolList (es : List (Nat × CpInfo)) (last : Nat) : List CpInfo := es.foldr (fun e r => gap e.1 (e.2 :: r)) (gap last [])
def pool (es : List (Nat × CpInfo)) (last : Nat) : Array CpInfo := ⟨poolList es last⟩
def fileOf (pool : Array CpInfo) (this : Nat) (attrs : Array Attribute := #[]) (ms : Array MethodInfo := #[]) (fl : Nat := 33) (sup : Nat := 0) (ifs : Array Nat := #[]) (fds : Array FieldInfo := #[]) : ClassFile where
  minorVersion := 0
  majorVersion := 65
  constantPool := pool
  accessFlags := fl
  thisClass := this
  superClass := sup
  interfaces := ifs
  fields := fds
  methods := ms
  attributes := attrs
def plain (name : String) (sup : Option ClassId) : Class where
  name := name
  kind := .ordinary
  loader := none
  accessFlags := 33
  super := sup
  interfaces := #[]
  cf := none
  fields := #[]
  methods := #[]
  instanceTypes := #[]
  staticTypes := #[]
  resolved := #[]
  callSites := []
  init := .initialized
  statics := none
  mirror := none

def pool0 : Array CpInfo := pool [(5, u "<init>"), (0, u "()V"), (1, .class_ 10), (1, u "java/lang/Object"), (85, u "clone"), (0, u "()Ljava/lang/Object;")] 26

def k0c0 : Code := { maxStack := 0, maxLocals := 1, code := object_method_1_code, exceptionTable := #[], attributes := #[] }
def k0m0 : Method := { name := "<init>", desc := "()V", sig := { parameters := [], returnType := none }, accessFlags := 1, code := some k0c0 }
def k0m1 : Method := { name := "clone", desc := "()Ljava/lang/Object;", sig := { parameters := [], returnType := some (.object "java/lang/Object") }, accessFlags := 260, code := none }
/-- java/lang/Object -/
def k0 : Class := { plain "java/lang/Object" none with
  accessFlags := 33
  interfaces := #[]
  cf := some (fileOf pool0 8 #[] #[{ accessFlags := 1, nameIndex := 5, descriptorIndex := 6, attributes := #[] }, { accessFlags := 260, nameIndex := 96, descriptorIndex := 97, attributes := #[] }] 33 0 #[] #[])
  fields := #[]
  methods := #[k0m0, k0m1]
  instanceTypes := #[]
  staticTypes := #[]
  resolved := Array.replicate 124 none
  statics := none }

def pool1 : Array CpInfo := pool [(2, .class_ 4), (1, u "java/lang/Object"), (0, u "<init>"), (0, u "()V"), (0, .class_ 8), (0, u "com/example/linkwright/linkwright/link/FoundTargets"), (0, .methodref 7 10), (0, .nameAndType 5 11), (0, u "(I)V"), (0, .methodref 7 13), (0, .nameAndType 14 6), (0, u "start"), (0, .methodref 7 16), (0, .nameAndType 17 11), (0, u "add"), (0, .methodref 7 19), (0, .nameAndType 20 21), (0, u "ascending"), (0, u "()[I"), (0, .methodref 23 24), (0, .class_ 25), (0, .nameAndType 26 27), (0, u "com/example/linkwright/linkwright/link/FoundTargetsAddPinLaw"), (0, u "same"), (0, u "([II)Z"), (2, u "law"), (0, u "(IIIIII)Z")] 5

def k1m0 : Method := { name := "<init>", desc := "()V", sig := { parameters := [], returnType := none }, accessFlags := 1, code := none }
def k1c1 : Code := { maxStack := 3, maxLocals := 17, code := code, exceptionTable := #[], attributes := #[] }
def k1m1 : Method := { name := "law", desc := "(IIIIII)Z", sig := { parameters := [.int, .int, .int, .int, .int, .int], returnType := some .boolean }, accessFlags := 9, code := some k1c1 }
def k1c2 : Code := { maxStack := 3, maxLocals := 4, code := method_3_code, exceptionTable := #[], attributes := #[] }
def k1m2 : Method := { name := "same", desc := "([II)Z", sig := { parameters := [(.array .int), .int], returnType := some .boolean }, accessFlags := 10, code := some k1c2 }
/-- com/example/linkwright/linkwright/link/FoundTargetsAddPinLaw -/
def k1 : Class := { plain "com/example/linkwright/linkwright/link/FoundTargetsAddPinLaw" (some 0) with
  accessFlags := 49
  interfaces := #[]
  cf := some (fileOf pool1 23 #[] #[{ accessFlags := 1, nameIndex := 5, descriptorIndex := 6, attributes := #[] }, { accessFlags := 9, nameIndex := 30, descriptorIndex := 31, attributes := #[] }, { accessFlags := 10, nameIndex := 26, descriptorIndex := 27, attributes := #[] }] 49 2 #[] #[])
  fields := #[]
  methods := #[k1m0, k1m1, k1m2]
  instanceTypes := #[]
  staticTypes := #[]
  resolved := Array.replicate 37 none
  statics := none }

def pool2 : Array CpInfo := pool [(1, .methodref 2 3), (0, .class_ 4), (0, .nameAndType 5 6), (0, u "java/lang/Object"), (0, u "<init>"), (0, u "()V"), (0, .fieldref 8 9), (0, .class_ 10), (0, .nameAndType 11 12), (0, u "com/example/linkwright/linkwright/link/FoundTargets"), (0, u "seen"), (0, u "[I"), (0, .fieldref 8 14), (0, .nameAndType 15 12), (0, u "found"), (0, .fieldref 8 17), (0, .nameAndType 18 19), (0, u "query"), (0, u "I"), (0, .fieldref 8 21), (0, .nameAndType 22 19), (0, u "count"), (0, .methodref 24 25), (0, .class_ 26), (0, .nameAndType 27 28), (0, u "java/util/Arrays"), (0, u "copyOf"), (0, u "([II)[I"), (0, .methodref 24 30), (0, .nameAndType 31 32), (0, u "sort"), (0, u "([I)V"), (0, u "(I)V"), (2, u "start"), (0, u "add"), (1, u "ascending"), (0, u "()[I")] 2

def k2c0 : Code := { maxStack := 2, maxLocals := 2, code := prog_15_method_1_code, exceptionTable := #[], attributes := #[] }
def k2m0 : Method := { name := "<init>", desc := "(I)V", sig := { parameters := [.int], returnType := none }, accessFlags := 0, code := some k2c0 }
def k2c1 : Code := { maxStack := 3, maxLocals := 1, code := prog_15_method_2_code, exceptionTable := #[], attributes := #[] }
def k2m1 : Method := { name := "start", desc := "()V", sig := { parameters := [], returnType := none }, accessFlags := 0, code := some k2c1 }
def k2c2 : Code := { maxStack := 3, maxLocals := 2, code := prog_15_method_3_code, exceptionTable := #[], attributes := #[] }
def k2m2 : Method := { name := "add", desc := "(I)V", sig := { parameters := [.int], returnType := none }, accessFlags := 0, code := some k2c2 }
def k2c3 : Code := { maxStack := 2, maxLocals := 2, code := prog_15_method_4_code, exceptionTable := #[], attributes := #[] }
def k2m3 : Method := { name := "ascending", desc := "()[I", sig := { parameters := [], returnType := some (.array .int) }, accessFlags := 0, code := some k2c3 }
/-- com/example/linkwright/linkwright/link/FoundTargets -/
def k2 : Class := { plain "com/example/linkwright/linkwright/link/FoundTargets" (some 0) with
  accessFlags := 48
  interfaces := #[]
  cf := some (fileOf pool2 8 #[] #[{ accessFlags := 0, nameIndex := 5, descriptorIndex := 33, attributes := #[] }, { accessFlags := 0, nameIndex := 36, descriptorIndex := 6, attributes := #[] }, { accessFlags := 0, nameIndex := 37, descriptorIndex := 33, attributes := #[] }, { accessFlags := 0, nameIndex := 39, descriptorIndex := 40, attributes := #[] }] 48 2 #[] #[{ accessFlags := 18, nameIndex := 11, descriptorIndex := 12, attributes := #[] }, { accessFlags := 18, nameIndex := 15, descriptorIndex := 12, attributes := #[] }, { accessFlags := 2, nameIndex := 18, descriptorIndex := 19, attributes := #[] }, { accessFlags := 2, nameIndex := 22, descriptorIndex := 19, attributes := #[] }])
  fields := #[{ name := "seen", type := (.array .int), accessFlags := 18, slot := 0, constantValue := 0 }, { name := "found", type := (.array .int), accessFlags := 18, slot := 1, constantValue := 0 }, { name := "query", type := .int, accessFlags := 2, slot := 2, constantValue := 0 }, { name := "count", type := .int, accessFlags := 2, slot := 3, constantValue := 0 }]
  methods := #[k2m0, k2m1, k2m2, k2m3]
  instanceTypes := #[(.array .int), (.array .int), .int, .int]
  staticTypes := #[]
  resolved := Array.replicate 43 none
  statics := none }

def pool3 : Array CpInfo := pool [(2, .class_ 4), (1, u "java/lang/Object"), (0, u "<init>"), (0, u "()V"), (0, .methodref 8 9), (0, .class_ 10), (0, .nameAndType 11 12), (0, u "java/util/DualPivotQuicksort"), (0, u "sort"), (0, u "([IIII)V"), (1, .class_ 16), (1, u "java/util/Arrays"), (57, .class_ 76), (1, u "java/util/Arrays$NaturalOrder"), (32, u "()Ljava/lang/Object;"), (3, .class_ 115), (1, u "java/util/Arrays$LegacyMergeSort"), (1, u "Z"), (10, .nameAndType 129 109), (0, u "clone"), (20, .methodref 151 152), (0, .class_ 153), (0, .nameAndType 154 155), (0, u "java/lang/System"), (0, u "arraycopy"), (0, u "(Ljava/lang/Object;ILjava/lang/Object;II)V"), (146, u "copyOf"), (1, .methodref 305 306), (0, .class_ 307), (0, .nameAndType 308 309), (0, u "java/lang/Math"), (0, u "min"), (0, u "(II)I"), (6, .methodref 317 128), (0, .class_ 318), (0, u "[I"), (56, .class_ 376), (0, u "java/util/Arrays$ArrayList"), (68, u "$assertionsDisabled"), (269, u "MIN_ARRAY_SORT_GRAN"), (0, u "I"), (2, u "INSERTIONSORT_THRESHOLD"), (6, u "([I)V"), (144, u "([II)[I"), (103, .class_ 976), (0, u "java/util/Arrays$ArrayItr")] 52

def k3m0 : Method := { name := "<init>", desc := "()V", sig := { parameters := [], returnType := none }, accessFlags := 2, code := none }
def k3c1 : Code := { maxStack := 4, maxLocals := 1, code := jdk_65_method_2_code, exceptionTable := #[], attributes := #[] }
def k3m1 : Method := { name := "sort", desc := "([I)V", sig := { parameters := [(.array .int)], returnType := none }, accessFlags := 9, code := some k3c1 }
def k3c2 : Code := { maxStack := 6, maxLocals := 3, code := jdk_65_method_123_code, exceptionTable := #[], attributes := #[] }
def k3m2 : Method := { name := "copyOf", desc := "([II)[I", sig := { parameters := [(.array .int), .int], returnType := some (.array .int) }, accessFlags := 9, code := some k3c2 }
/-- java/util/Arrays -/
def k3 : Class := { plain "java/util/Arrays" (some 0) with
  accessFlags := 49
  interfaces := #[]
  cf := some (fileOf pool3 14 #[.nestMembers #[975, 375, 113, 74]] #[{ accessFlags := 2, nameIndex := 5, descriptorIndex := 6, attributes := #[] }, { accessFlags := 9, nameIndex := 11, descriptorIndex := 726, attributes := #[] }, { accessFlags := 9, nameIndex := 302, descriptorIndex := 871, attributes := #[] }] 49 2 #[] #[{ accessFlags := 26, nameIndex := 715, descriptorIndex := 716, attributes := #[] }, { accessFlags := 26, nameIndex := 719, descriptorIndex := 716, attributes := #[] }, { accessFlags := 4120, nameIndex := 445, descriptorIndex := 117, attributes := #[] }])
  fields := #[{ name := "MIN_ARRAY_SORT_GRAN", type := .int, accessFlags := 26, slot := 0, constantValue := 0 }, { name := "INSERTIONSORT_THRESHOLD", type := .int, accessFlags := 26, slot := 1, constantValue := 0 }, { name := "$assertionsDisabled", type := .boolean, accessFlags := 4120, slot := 2, constantValue := 0 }]
  methods := #[k3m0, k3m1, k3m2]
  instanceTypes := #[]
  staticTypes := #[.int, .int, .boolean]
  resolved := Array.replicate 1029 none
  statics := none }

def pool4 : Array CpInfo := pool [(1, .class_ 2), (0, u "java/lang/Cloneable"), (0, .class_ 4), (0, u "java/lang/Object")] 2

/-- java/lang/Cloneable -/
def k4 : Class := { plain "java/lang/Cloneable" (some 0) with
  accessFlags := 1537
  interfaces := #[]
  cf := some (fileOf pool4 1 #[] #[] 1537 3 #[] #[])
  fields := #[]
  methods := #[]
  instanceTypes := #[]
  staticTypes := #[]
  resolved := Array.replicate 7 none
  statics := none }

def pool5 : Array CpInfo := pool [(1, .class_ 2), (0, u "java/util/DualPivotQuicksort"), (5, .class_ 10), (1, u "java/lang/Object"), (0, u "<init>"), (0, u "()V"), (4, .class_ 18), (0, u "java/util/DualPivotQuicksort$Sorter"), (7, .methodref 1 27), (0, .nameAndType 28 29), (0, u "sort"), (0, u "(Ljava/util/DualPivotQuicksort$Sorter;[IIII)V"), (3, u "([IIII)V"), (0, .methodref 1 35), (0, .nameAndType 36 37), (0, u "insertionSort"), (0, u "([III)V"), (30, u "I"), (4, .class_ 74), (0, u "java/util/DualPivotQuicksort$RunMerger"), (10, .class_ 86), (0, u "java/util/DualPivotQuicksort$Merger"), (127, u "MAX_MIXED_INSERTION_SORT_SIZE"), (2, u "MAX_INSERTION_SORT_SIZE"), (1, u "MIN_PARALLEL_SORT_SIZE"), (1, u "MIN_TRY_MERGE_SIZE"), (0, u "MIN_FIRST_RUN_SIZE"), (1, u "MIN_FIRST_RUNS_FACTOR"), (1, u "MAX_RUN_CAPACITY"), (1, u "MIN_RUN_COUNT"), (1, u "MIN_PARALLEL_MERGE_PARTS_SIZE"), (0, u "MIN_BYTE_COUNTING_SORT_SIZE"), (1, u "MIN_SHORT_OR_CHAR_COUNTING_SORT_SIZE"), (1, u "DELTA"), (1, u "MAX_RECURSION_DEPTH"), (1, u "NUM_BYTE_VALUES"), (1, u "MAX_BYTE_INDEX"), (0, u "NUM_CHAR_VALUES"), (0, u "NUM_SHORT_VALUES"), (0, u "MAX_SHORT_INDEX")] 86

def k5m0 : Method := { name := "<init>", desc := "()V", sig := { parameters := [], returnType := none }, accessFlags := 2, code := none }
def k5c1 : Code := { maxStack := 9, maxLocals := 7, code := jdk_2529_method_3_code, exceptionTable := #[], attributes := #[] }
def k5m1 : Method := { name := "sort", desc := "([IIII)V", sig := { parameters := [(.array .int), .int, .int, .int], returnType := none }, accessFlags := 8, code := some k5c1 }
def k5c2 : Code := { maxStack := 6, maxLocals := 21, code := jdk_2529_method_4_code, exceptionTable := #[], attributes := #[] }
def k5m2 : Method := { name := "sort", desc := "(Ljava/util/DualPivotQuicksort$Sorter;[IIII)V", sig := { parameters := [(.object "java/util/DualPivotQuicksort$Sorter"), (.array .int), .int, .int, .int], returnType := none }, accessFlags := 8, code := some k5c2 }
def k5c3 : Code := { maxStack := 4, maxLocals := 6, code := jdk_2529_method_6_code, exceptionTable := #[], attributes := #[] }
def k5m3 : Method := { name := "insertionSort", desc := "([III)V", sig := { parameters := [(.array .int), .int, .int], returnType := none }, accessFlags := 10, code := some k5c3 }
/-- java/util/DualPivotQuicksort -/
def k5 : Class := { plain "java/util/DualPivotQuicksort" (some 0) with
  accessFlags := 48
  interfaces := #[]
  cf := some (fileOf pool5 1 #[.nestMembers #[73, 85, 17]] #[{ accessFlags := 2, nameIndex := 11, descriptorIndex := 12, attributes := #[] }, { accessFlags := 8, nameIndex := 28, descriptorIndex := 33, attributes := #[] }, { accessFlags := 8, nameIndex := 28, descriptorIndex := 29, attributes := #[] }, { accessFlags := 10, nameIndex := 36, descriptorIndex := 37, attributes := #[] }] 48 8 #[] #[{ accessFlags := 26, nameIndex := 214, descriptorIndex := 68, attributes := #[] }, { accessFlags := 26, nameIndex := 217, descriptorIndex := 68, attributes := #[] }, { accessFlags := 26, nameIndex := 219, descriptorIndex := 68, attributes := #[] }, { accessFlags := 26, nameIndex := 221, descriptorIndex := 68, attributes := #[] }, { accessFlags := 26, nameIndex := 222, descriptorIndex := 68, attributes := #[] }, { accessFlags := 26, nameIndex := 224, descriptorIndex := 68, attributes := #[] }, { accessFlags := 26, nameIndex := 226, descriptorIndex := 68, attributes := #[] }, { accessFlags := 26, nameIndex := 228, descriptorIndex := 68, attributes := #[] }, { accessFlags := 26, nameIndex := 230, descriptorIndex := 68, attributes := #[] }, { accessFlags := 26, nameIndex := 231, descriptorIndex := 68, attributes := #[] }, { accessFlags := 26, nameIndex := 233, descriptorIndex := 68, attributes := #[] }, { accessFlags := 26, nameIndex := 235, descriptorIndex := 68, attributes := #[] }, { accessFlags := 26, nameIndex := 237, descriptorIndex := 68, attributes := #[] }, { accessFlags := 26, nameIndex := 239, descriptorIndex := 68, attributes := #[] }, { accessFlags := 26, nameIndex := 241, descriptorIndex := 68, attributes := #[] }, { accessFlags := 26, nameIndex := 242, descriptorIndex := 68, attributes := #[] }, { accessFlags := 26, nameIndex := 243, descriptorIndex := 68, attributes := #[] }, { accessFlags := 26, nameIndex := 244, descriptorIndex := 68, attributes := #[] }])
  fields := #[{ name := "MAX_MIXED_INSERTION_SORT_SIZE", type := .int, accessFlags := 26, slot := 0, constantValue := 0 }, { name := "MAX_INSERTION_SORT_SIZE", type := .int, accessFlags := 26, slot := 1, constantValue := 0 }, { name := "MIN_PARALLEL_SORT_SIZE", type := .int, accessFlags := 26, slot := 2, constantValue := 0 }, { name := "MIN_TRY_MERGE_SIZE", type := .int, accessFlags := 26, slot := 3, constantValue := 0 }, { name := "MIN_FIRST_RUN_SIZE", type := .int, accessFlags := 26, slot := 4, constantValue := 0 }, { name := "MIN_FIRST_RUNS_FACTOR", type := .int, accessFlags := 26, slot := 5, constantValue := 0 }, { name := "MAX_RUN_CAPACITY", type := .int, accessFlags := 26, slot := 6, constantValue := 0 }, { name := "MIN_RUN_COUNT", type := .int, accessFlags := 26, slot := 7, constantValue := 0 }, { name := "MIN_PARALLEL_MERGE_PARTS_SIZE", type := .int, accessFlags := 26, slot := 8, constantValue := 0 }, { name := "MIN_BYTE_COUNTING_SORT_SIZE", type := .int, accessFlags := 26, slot := 9, constantValue := 0 }, { name := "MIN_SHORT_OR_CHAR_COUNTING_SORT_SIZE", type := .int, accessFlags := 26, slot := 10, constantValue := 0 }, { name := "DELTA", type := .int, accessFlags := 26, slot := 11, constantValue := 0 }, { name := "MAX_RECURSION_DEPTH", type := .int, accessFlags := 26, slot := 12, constantValue := 0 }, { name := "NUM_BYTE_VALUES", type := .int, accessFlags := 26, slot := 13, constantValue := 0 }, { name := "MAX_BYTE_INDEX", type := .int, accessFlags := 26, slot := 14, constantValue := 0 }, { name := "NUM_CHAR_VALUES", type := .int, accessFlags := 26, slot := 15, constantValue := 0 }, { name := "NUM_SHORT_VALUES", type := .int, accessFlags := 26, slot := 16, constantValue := 0 }, { name := "MAX_SHORT_INDEX", type := .int, accessFlags := 26, slot := 17, constantValue := 0 }]
  methods := #[k5m0, k5m1, k5m2, k5m3]
  instanceTypes := #[]
  staticTypes := #[.int, .int, .int, .int, .int, .int, .int, .int, .int, .int, .int, .int, .int, .int, .int, .int, .int, .int]
  resolved := Array.replicate 331 none
  statics := none }

def pool6 : Array CpInfo := pool [(1, .class_ 2), (0, u "java/lang/Math"), (1, .class_ 6), (1, u "java/lang/Object"), (0, u "<init>"), (0, u "()V"), (89, .class_ 100), (1, u "java/lang/Math$RandomNumberGeneratorHolder"), (71, u "negativeZeroFloatBits"), (0, u "J"), (2, u "negativeZeroDoubleBits"), (24, u "min"), (43, u "$assertionsDisabled"), (0, u "Z"), (88, u "(II)I"), (2, u "twoToTheDoubleScaleDown"), (0, u "D"), (4, u "twoToTheDoubleScaleUp"), (9, u "E"), (3, u "PI"), (2, u "TAU"), (2, u "DEGREES_TO_RADIANS"), (0, u "RADIANS_TO_DEGREES")] 94

def k6m0 : Method := { name := "<init>", desc := "()V", sig := { parameters := [], returnType := none }, accessFlags := 2, code := none }
def k6c1 : Code := { maxStack := 2, maxLocals := 2, code := jdk_29_method_69_code, exceptionTable := #[], attributes := #[] }
def k6m1 : Method := { name := "min", desc := "(II)I", sig := { parameters := [.int, .int], returnType := some .int }, accessFlags := 9, code := some k6c1 }
/-- java/lang/Math -/
def k6 : Class := { plain "java/lang/Math" (some 0) with
  accessFlags := 49
  interfaces := #[]
  cf := some (fileOf pool6 1 #[.nestMembers #[98]] #[{ accessFlags := 2, nameIndex := 7, descriptorIndex := 8, attributes := #[] }, { accessFlags := 9, nameIndex := 201, descriptorIndex := 335, attributes := #[] }] 49 4 #[] #[{ accessFlags := 25, nameIndex := 354, descriptorIndex := 339, attributes := #[] }, { accessFlags := 25, nameIndex := 358, descriptorIndex := 339, attributes := #[] }, { accessFlags := 25, nameIndex := 361, descriptorIndex := 339, attributes := #[] }, { accessFlags := 26, nameIndex := 364, descriptorIndex := 339, attributes := #[] }, { accessFlags := 26, nameIndex := 365, descriptorIndex := 339, attributes := #[] }, { accessFlags := 26, nameIndex := 172, descriptorIndex := 173, attributes := #[] }, { accessFlags := 26, nameIndex := 176, descriptorIndex := 173, attributes := #[] }, { accessFlags := 8, nameIndex := 344, descriptorIndex := 339, attributes := #[] }, { accessFlags := 8, nameIndex := 338, descriptorIndex := 339, attributes := #[] }, { accessFlags := 4120, nameIndex := 245, descriptorIndex := 246, attributes := #[] }])
  fields := #[{ name := "E", type := .double, accessFlags := 25, slot := 0, constantValue := 0 }, { name := "PI", type := .double, accessFlags := 25, slot := 1, constantValue := 0 }, { name := "TAU", type := .double, accessFlags := 25, slot := 2, constantValue := 0 }, { name := "DEGREES_TO_RADIANS", type := .double, accessFlags := 26, slot := 3, constantValue := 0 }, { name := "RADIANS_TO_DEGREES", type := .double, accessFlags := 26, slot := 4, constantValue := 0 }, { name := "negativeZeroFloatBits", type := .long, accessFlags := 26, slot := 5, constantValue := 0 }, { name := "negativeZeroDoubleBits", type := .long, accessFlags := 26, slot := 6, constantValue := 0 }, { name := "twoToTheDoubleScaleUp", type := .double, accessFlags := 8, slot := 7, constantValue := 0 }, { name := "twoToTheDoubleScaleDown", type := .double, accessFlags := 8, slot := 8, constantValue := 0 }, { name := "$assertionsDisabled", type := .boolean, accessFlags := 4120, slot := 9, constantValue := 0 }]
  methods := #[k6m0, k6m1]
  instanceTypes := #[]
  staticTypes := #[.double, .double, .double, .double, .double, .long, .long, .double, .double, .boolean]
  resolved := Array.replicate 460 none
  statics := none }

def pool7 : Array CpInfo := pool [(2, .class_ 4), (1, u "java/lang/Object"), (0, u "<init>"), (0, u "()V"), (1, .class_ 10), (1, u "java/lang/System"), (0, u "allowSecurityManager"), (0, u "I"), (16, u "cons"), (0, u "Ljava/io/Console;"), (77, .class_ 110), (1, u "java/lang/System$CallersHolder"), (43, u "initialErrStream"), (0, u "Ljava/io/PrintStream;"), (19, u "security"), (0, u "Ljava/lang/SecurityManager;"), (31, .class_ 209), (0, u "java/lang/System$1"), (7, u "props"), (0, u "Ljava/util/Properties;"), (2, u "lineSeparator"), (0, u "Ljava/lang/String;"), (96, .class_ 321), (1, u "java/lang/System$LoggerFinder"), (5, .class_ 328), (0, u "java/lang/System$Logger"), (67, u "err"), (2, u "out"), (91, u "notSupportedJnuEncoding"), (15, u "in"), (17, u "initialIn"), (0, u "Ljava/io/InputStream;"), (35, u "bootLayer"), (0, u "Ljava/lang/ModuleLayer;"), (99, .class_ 664), (0, u "java/lang/System$2"), (9, u "NEVER"), (2, u "MAYBE"), (49, u "arraycopy"), (0, u "(Ljava/lang/Object;ILjava/lang/Object;II)V"), (72, .class_ 802), (0, u "java/lang/System$Logger$Level")] 31

def k7m0 : Method := { name := "<init>", desc := "()V", sig := { parameters := [], returnType := none }, accessFlags := 2, code := none }
def k7m1 : Method := { name := "arraycopy", desc := "(Ljava/lang/Object;ILjava/lang/Object;II)V", sig := { parameters := [(.object "java/lang/Object"), .int, (.object "java/lang/Object"), .int, .int], returnType := none }, accessFlags := 265, code := none }
/-- java/lang/System -/
def k7 : Class := { plain "java/lang/System" (some 0) with
  accessFlags := 49
  interfaces := #[]
  cf := some (fileOf pool7 8 #[.nestMembers #[319, 327, 801, 108, 663, 208]] #[{ accessFlags := 2, nameIndex := 5, descriptorIndex := 6, attributes := #[] }, { accessFlags := 265, nameIndex := 727, descriptorIndex := 728, attributes := #[] }] 49 2 #[] #[{ accessFlags := 25, nameIndex := 507, descriptorIndex := 526, attributes := #[] }, { accessFlags := 25, nameIndex := 399, descriptorIndex := 155, attributes := #[] }, { accessFlags := 25, nameIndex := 396, descriptorIndex := 155, attributes := #[] }, { accessFlags := 10, nameIndex := 525, descriptorIndex := 526, attributes := #[] }, { accessFlags := 26, nameIndex := 674, descriptorIndex := 12, attributes := #[] }, { accessFlags := 26, nameIndex := 677, descriptorIndex := 12, attributes := #[] }, { accessFlags := 10, nameIndex := 11, descriptorIndex := 12, attributes := #[] }, { accessFlags := 74, nameIndex := 175, descriptorIndex := 176, attributes := #[] }, { accessFlags := 10, nameIndex := 491, descriptorIndex := 222, attributes := #[] }, { accessFlags := 74, nameIndex := 29, descriptorIndex := 30, attributes := #[] }, { accessFlags := 74, nameIndex := 154, descriptorIndex := 155, attributes := #[] }, { accessFlags := 10, nameIndex := 217, descriptorIndex := 218, attributes := #[] }, { accessFlags := 10, nameIndex := 221, descriptorIndex := 222, attributes := #[] }, { accessFlags := 8, nameIndex := 562, descriptorIndex := 563, attributes := #[] }])
  fields := #[{ name := "in", type := (.object "java/io/InputStream"), accessFlags := 25, slot := 0, constantValue := 0 }, { name := "out", type := (.object "java/io/PrintStream"), accessFlags := 25, slot := 1, constantValue := 0 }, { name := "err", type := (.object "java/io/PrintStream"), accessFlags := 25, slot := 2, constantValue := 0 }, { name := "initialIn", type := (.object "java/io/InputStream"), accessFlags := 10, slot := 3, constantValue := 0 }, { name := "NEVER", type := .int, accessFlags := 26, slot := 4, constantValue := 0 }, { name := "MAYBE", type := .int, accessFlags := 26, slot := 5, constantValue := 0 }, { name := "allowSecurityManager", type := .int, accessFlags := 10, slot := 6, constantValue := 0 }, { name := "security", type := (.object "java/lang/SecurityManager"), accessFlags := 74, slot := 7, constantValue := 0 }, { name := "notSupportedJnuEncoding", type := (.object "java/lang/String"), accessFlags := 10, slot := 8, constantValue := 0 }, { name := "cons", type := (.object "java/io/Console"), accessFlags := 74, slot := 9, constantValue := 0 }, { name := "initialErrStream", type := (.object "java/io/PrintStream"), accessFlags := 74, slot := 10, constantValue := 0 }, { name := "props", type := (.object "java/util/Properties"), accessFlags := 10, slot := 11, constantValue := 0 }, { name := "lineSeparator", type := (.object "java/lang/String"), accessFlags := 10, slot := 12, constantValue := 0 }, { name := "bootLayer", type := (.object "java/lang/ModuleLayer"), accessFlags := 8, slot := 13, constantValue := 0 }]
  methods := #[k7m0, k7m1]
  instanceTypes := #[]
  staticTypes := #[(.object "java/io/InputStream"), (.object "java/io/PrintStream"), (.object "java/io/PrintStream"), (.object "java/io/InputStream"), .int, .int, .int, (.object "java/lang/SecurityManager"), (.object "java/lang/String"), (.object "java/io/Console"), (.object "java/io/PrintStream"), (.object "java/util/Properties"), (.object "java/lang/String"), (.object "java/lang/ModuleLayer")]
  resolved := Array.replicate 834 none
  statics := none }

def pool8 : Array CpInfo := pool [(1, u "java/io/Serializable"), (0, .class_ 1), (0, u "java/lang/Object"), (0, .class_ 3)] 3

/-- java/io/Serializable -/
def k8 : Class := { plain "java/io/Serializable" (some 0) with
  accessFlags := 1537
  interfaces := #[]
  cf := some (fileOf pool8 2 #[] #[] 1537 4 #[] #[])
  fields := #[]
  methods := #[]
  instanceTypes := #[]
  staticTypes := #[]
  resolved := Array.replicate 8 none
  statics := none }

/-- the primitive byte -/
def k9 : Class := { plain "byte" none with kind := .primitive 'B', accessFlags := 0x411 }
/-- [B -/
def k10 : Class := { plain "[B" (some 0) with kind := .array 9 .byte, interfaces := #[4, 8], accessFlags := 1041 }

/-- the primitive int -/
def k11 : Class := { plain "int" none with kind := .primitive 'I', accessFlags := 0x411 }
/-- [I -/
def k12 : Class := { plain "[I" (some 0) with kind := .array 11 .int, interfaces := #[4, 8], accessFlags := 1041 }

def heap : Heap := #[]
def classes : Array Class := #[k0, k1, k2, k3, k4, k5, k6, k7, k8, k9, k10, k11, k12]
def interned : List (Array UInt16 × Addr) := []
def slotsUsed : Nat := 0
def theMethod : MethodId := ⟨1, 1⟩
def args0 : Array Value := #[.int 3, .int 5, .int 7, .int 9, .int 2, .int 4]
def aboutOver (below : List Frame) : State where
  vm := { classes := classes, interned := interned.toArray }
  heap := heap
  slotsUsed := slotsUsed
  threads := #[{ frames := .invoking theMethod args0 :: below }]
def below0 : List Frame := [.native { method := ⟨0, 0⟩, args := #[] }]
def about1 : State := aboutOver below0
def p0 : Program := .bare "" "" ""
def e0 : Env := launch0.env 0 0 0
theorem w_frames : about1.frames = Frame.invoking theMethod args0 :: below0 := rfl
set_option maxRecDepth 65536 in
theorem w_args : argsFit about1.vm theMethod args0 = true := by decide +kernel
set_option maxRecDepth 65536 in
theorem w_heap : heapFits about1 = true := by decide +kernel
set_option maxRecDepth 65536 in
theorem w_runnable : about1.curStatus? = some .runnable := by decide +kernel
set_option maxRecDepth 65536 in
theorem w_alone : about1.alone = true := by decide +kernel
set_option maxRecDepth 65536 in
theorem w_named : about1.methodNamed? x = some theMethod := by decide +kernel
set_option maxRecDepth 65536 in
theorem w_hears : about1.hears theMethod below0 = true := by decide +kernel
set_option maxRecDepth 65536 in
theorem w_ripe : about1.ripe theMethod args0 below0 = true := by decide +kernel
theorem w_running : about1.status = .running := rfl
set_option maxRecDepth 65536 in
theorem w_room : about1.hasRoom e0.platform room_1 = true :=
  launch0.hasRoom_least _ room_1 (by decide +kernel) (by decide +kernel) (by decide +kernel) (by decide +kernel) (by decide +kernel) (by decide +kernel)
theorem allAtoms_all (ts : List Jvm.Cond) (a : Array Jvm.Value) (st : Jvm.State) : (allAtoms ts).before a st = ts.all (fun c => c.before a st) := by
  induction ts with
  | nil => rfl
  | cons c t ih =>
    show (Jvm.Cond.and c (allAtoms t)).before a st = _
    rw [Jvm.Cond.before_and, ih, List.all_cons]
def words1 : List Jvm.Cond := Jvm.Cond.code x code maxLocals ret :: tables_1
/-- a 'code' word, met by the world's own term for the bytes: nothing is compared byte by byte -/
theorem code_word {y : MethodName} {bytes : ByteArray} {mx : Nat} {rt : Option FieldType} {a : Array Value} {s : State} {m : MethodId} {meth : Method} {c : Code} (h1 : s.methodNamed? y = some m) (h2 : s.vm.method? m = some meth) (h3 : meth.code = some c) (h4 : c.code = bytes)
    (h5 : (c.maxLocals == mx && c.exceptionTable.isEmpty && decide (c.maxStack ≤ mostOperands) && decide (meth.sig.returnType = rt) && !meth.locks && decide (parseMethodDescriptor y.desc = some meth.sig)) = true) : (Jvm.Cond.code y bytes mx rt).before a s = true := by
  simp only [Bool.and_eq_true, beq_iff_eq, Bool.not_eq_true', decide_eq_true_eq] at h5
  obtain ⟨⟨⟨⟨⟨g1, g2⟩, g3⟩, g4⟩, g5⟩, g6⟩ := h5
  simp [Cond.before, Cond.holds, Cond.value, h1, h2, h3, h4, g1, g2, g3, g4, g5, g6]
def isCode : Jvm.Cond → Bool
  | .code _ _ _ _ => true
  | _ => false
theorem all_split {L : List Jvm.Cond} {P : Jvm.Cond → Bool} (h1 : L.all (fun c => isCode c || P c) = true) (h2 : ∀ c ∈ L.filter isCode, P c = true) : L.all P = true := by
  refine List.all_eq_true.mpr fun c hc => ?_
  have h := List.all_eq_true.mp h1 c hc
  rcases Bool.eq_false_or_eq_true (isCode c) with hi | hi
  · exact h2 c (List.mem_filter.mpr ⟨hc, hi⟩)
  · simpa [hi] using h
set_option maxRecDepth 65536 in
theorem w_c0 : (Jvm.Cond.code x code maxLocals ret).before args0 about1 = true := code_word (m := ⟨1, 1⟩) (meth := k1m1) (c := k1c1) (by decide +kernel) rfl rfl rfl (by decide +kernel)
set_option maxRecDepth 65536 in
theorem w_c1 : (Jvm.Cond.code ({ cls := "com/example/linkwright/linkwright/link/FoundTargets", name := "<init>", desc := "(I)V" } : Jvm.MethodName) prog_15_method_1_code (2 : Nat) (Option.none : Option Jvm.ClassFile.FieldType)).before args0 about1 = true := code_word (m := ⟨2, 0⟩) (meth := k2m0) (c := k2c0) (by decide +kernel) rfl rfl rfl (by decide +kernel)
set_option maxRecDepth 65536 in
theorem w_c2 : (Jvm.Cond.code ({ cls := "java/lang/Object", name := "<init>", desc := "()V" } : Jvm.MethodName) object_method_1_code (1 : Nat) (Option.none : Option Jvm.ClassFile.FieldType)).before args0 about1 = true := code_word (m := ⟨0, 0⟩) (meth := k0m0) (c := k0c0) (by decide +kernel) rfl rfl rfl (by decide +kernel)
set_option maxRecDepth 65536 in
theorem w_c3 : (Jvm.Cond.code ({ cls := "com/example/linkwright/linkwright/link/FoundTargets", name := "start", desc := "()V" } : Jvm.MethodName) prog_15_method_2_code (1 : Nat) (Option.none : Option Jvm.ClassFile.FieldType)).before args0 about1 = true := code_word (m := ⟨2, 1⟩) (meth := k2m1) (c := k2c1) (by decide +kernel) rfl rfl rfl (by decide +kernel)
set_option maxRecDepth 65536 in
theorem w_c4 : (Jvm.Cond.code ({ cls := "com/example/linkwright/linkwright/link/FoundTargets", name := "add", desc := "(I)V" } : Jvm.MethodName) prog_15_method_3_code (2 : Nat) (Option.none : Option Jvm.ClassFile.FieldType)).before args0 about1 = true := code_word (m := ⟨2, 2⟩) (meth := k2m2) (c := k2c2) (by decide +kernel) rfl rfl rfl (by decide +kernel)
set_option maxRecDepth 65536 in
theorem w_c5 : (Jvm.Cond.code ({ cls := "com/example/linkwright/linkwright/link/FoundTargets", name := "ascending", desc := "()[I" } : Jvm.MethodName) prog_15_method_4_code (2 : Nat) (Option.some (Jvm.ClassFile.FieldType.array Jvm.ClassFile.FieldType.int))).before args0 about1 = true := code_word (m := ⟨2, 3⟩) (meth := k2m3) (c := k2c3) (by decide +kernel) rfl rfl rfl (by decide +kernel)
set_option maxRecDepth 65536 in
theorem w_c6 : (Jvm.Cond.code ({ cls := "java/util/Arrays", name := "copyOf", desc := "([II)[I" } : Jvm.MethodName) jdk_65_method_123_code (3 : Nat) (Option.some (Jvm.ClassFile.FieldType.array Jvm.ClassFile.FieldType.int))).before args0 about1 = true := code_word (m := ⟨3, 2⟩) (meth := k3m2) (c := k3c2) (by decide +kernel) rfl rfl rfl (by decide +kernel)
set_option maxRecDepth 65536 in
theorem w_c7 : (Jvm.Cond.code ({ cls := "java/util/Arrays", name := "sort", desc := "([I)V" } : Jvm.MethodName) jdk_65_method_2_code (1 : Nat) (Option.none : Option Jvm.ClassFile.FieldType)).before args0 about1 = true := code_word (m := ⟨3, 1⟩) (meth := k3m1) (c := k3c1) (by decide +kernel) rfl rfl rfl (by decide +kernel)
set_option maxRecDepth 65536 in
theorem w_c8 : (Jvm.Cond.code ({ cls := "java/util/DualPivotQuicksort", name := "sort", desc := "([IIII)V" } : Jvm.MethodName) jdk_2529_method_3_code (7 : Nat) (Option.none : Option Jvm.ClassFile.FieldType)).before args0 about1 = true := code_word (m := ⟨5, 1⟩) (meth := k5m1) (c := k5c1) (by decide +kernel) rfl rfl rfl (by decide +kernel)
set_option maxRecDepth 65536 in
theorem w_c9 : (Jvm.Cond.code ({ cls := "java/util/DualPivotQuicksort", name := "sort", desc := "(Ljava/util/DualPivotQuicksort$Sorter;[IIII)V" } : Jvm.MethodName) jdk_2529_method_4_code (21 : Nat) (Option.none : Option Jvm.ClassFile.FieldType)).before args0 about1 = true := code_word (m := ⟨5, 2⟩) (meth := k5m2) (c := k5c2) (by decide +kernel) rfl rfl rfl (by decide +kernel)
set_option maxRecDepth 65536 in
theorem w_c10 : (Jvm.Cond.code ({ cls := "java/util/DualPivotQuicksort", name := "insertionSort", desc := "([III)V" } : Jvm.MethodName) jdk_2529_method_6_code (6 : Nat) (Option.none : Option Jvm.ClassFile.FieldType)).before args0 about1 = true := code_word (m := ⟨5, 3⟩) (meth := k5m3) (c := k5c3) (by decide +kernel) rfl rfl rfl (by decide +kernel)
set_option maxRecDepth 65536 in
theorem w_c11 : (Jvm.Cond.code ({ cls := "java/lang/Math", name := "min", desc := "(II)I" } : Jvm.MethodName) jdk_29_method_69_code (2 : Nat) (Option.some Jvm.ClassFile.FieldType.int)).before args0 about1 = true := code_word (m := ⟨6, 1⟩) (meth := k6m1) (c := k6c1) (by decide +kernel) rfl rfl rfl (by decide +kernel)
set_option maxRecDepth 65536 in
theorem w_c12 : (Jvm.Cond.code ({ cls := "com/example/linkwright/linkwright/link/FoundTargetsAddPinLaw", name := "same", desc := "([II)Z" } : Jvm.MethodName) method_3_code (4 : Nat) (Option.some Jvm.ClassFile.FieldType.boolean)).before args0 about1 = true := code_word (m := ⟨1, 2⟩) (meth := k1m2) (c := k1c2) (by decide +kernel) rfl rfl rfl (by decide +kernel)
def codes1 : List Jvm.Cond := [Jvm.Cond.code x code maxLocals ret, Jvm.Cond.code ({ cls := "com/example/linkwright/linkwright/link/FoundTargets", name := "<init>", desc := "(I)V" } : Jvm.MethodName) prog_15_method_1_code (2 : Nat) (Option.none : Option Jvm.ClassFile.FieldType), Jvm.Cond.code ({ cls := "java/lang/Object", name := "<init>", desc := "()V" } : Jvm.MethodName) object_method_1_code (1 : Nat) (Option.none : Option Jvm.ClassFile.FieldType), Jvm.Cond.code ({ cls := "com/example/linkwright/linkwright/link/FoundTargets", name := "start", desc := "()V" } : Jvm.MethodName) prog_15_method_2_code (1 : Nat) (Option.none : Option Jvm.ClassFile.FieldType), Jvm.Cond.code ({ cls := "com/example/linkwright/linkwright/link/FoundTargets", name := "add", desc := "(I)V" } : Jvm.MethodName) prog_15_method_3_code (2 : Nat) (Option.none : Option Jvm.ClassFile.FieldType), Jvm.Cond.code ({ cls := "com/example/linkwright/linkwright/link/FoundTargets", name := "ascending", desc := "()[I" } : Jvm.MethodName) prog_15_method_4_code (2 : Nat) (Option.some (Jvm.ClassFile.FieldType.array Jvm.ClassFile.FieldType.int)), Jvm.Cond.code ({ cls := "java/util/Arrays", name := "copyOf", desc := "([II)[I" } : Jvm.MethodName) jdk_65_method_123_code (3 : Nat) (Option.some (Jvm.ClassFile.FieldType.array Jvm.ClassFile.FieldType.int)), Jvm.Cond.code ({ cls := "java/util/Arrays", name := "sort", desc := "([I)V" } : Jvm.MethodName) jdk_65_method_2_code (1 : Nat) (Option.none : Option Jvm.ClassFile.FieldType), Jvm.Cond.code ({ cls := "java/util/DualPivotQuicksort", name := "sort", desc := "([IIII)V" } : Jvm.MethodName) jdk_2529_method_3_code (7 : Nat) (Option.none : Option Jvm.ClassFile.FieldType), Jvm.Cond.code ({ cls := "java/util/DualPivotQuicksort", name := "sort", desc := "(Ljava/util/DualPivotQuicksort$Sorter;[IIII)V" } : Jvm.MethodName) jdk_2529_method_4_code (21 : Nat) (Option.none : Option Jvm.ClassFile.FieldType), Jvm.Cond.code ({ cls := "java/util/DualPivotQuicksort", name := "insertionSort", desc := "([III)V" } : Jvm.MethodName) jdk_2529_method_6_code (6 : Nat) (Option.none : Option Jvm.ClassFile.FieldType), Jvm.Cond.code ({ cls := "java/lang/Math", name := "min", desc := "(II)I" } : Jvm.MethodName) jdk_29_method_69_code (2 : Nat) (Option.some Jvm.ClassFile.FieldType.int), Jvm.Cond.code ({ cls := "com/example/linkwright/linkwright/link/FoundTargetsAddPinLaw", name := "same", desc := "([II)Z" } : Jvm.MethodName) method_3_code (4 : Nat) (Option.some Jvm.ClassFile.FieldType.boolean)]
set_option maxRecDepth 65536 in
theorem codes_eq : words1.filter isCode = codes1 := rfl
theorem w_codes : ∀ c ∈ words1.filter isCode, c.before args0 about1 = true := by
  rw [codes_eq]
  intro c hc
  simp only [codes1, List.mem_cons, List.not_mem_nil, or_false] at hc
  rcases hc with rfl | rfl | rfl | rfl | rfl | rfl | rfl | rfl | rfl | rfl | rfl | rfl | rfl
  · exact w_c0
  · exact w_c1
  · exact w_c2
  · exact w_c3
  · exact w_c4
  · exact w_c5
  · exact w_c6
  · exact w_c7
  · exact w_c8
  · exact w_c9
  · exact w_c10
  · exact w_c11
  · exact w_c12
set_option maxRecDepth 65536 in
theorem w_t1 : (words1.take 24).all (fun c => isCode c || c.before args0 about1) = true := by decide +kernel
set_option maxRecDepth 65536 in
theorem w_t2 : ((words1.drop 24).take 24).all (fun c => isCode c || c.before args0 about1) = true := by decide +kernel
set_option maxRecDepth 65536 in
theorem w_t3 : ((words1.drop 24).drop 24).all (fun c => isCode c || c.before args0 about1) = true := by decide +kernel
theorem w_tables : (allAtoms (Jvm.Cond.code x code maxLocals ret :: tables_1)).before args0 about1 = true := by
  rw [allAtoms_all]
  show words1.all (fun c => c.before args0 about1) = true
  refine all_split ?_ w_codes
  rw [← List.take_append_drop 24 words1, List.all_append, w_t1, ← List.take_append_drop 24 (words1.drop 24), List.all_append, w_t2, w_t3]
  rfl
set_option maxRecDepth 65536 in
theorem w_case : (Jvm.Cond.and given_1 narrow_1).before args0 about1 = true := by decide +kernel
theorem w_applies : (headSpec (Jvm.Cond.code x code maxLocals ret :: tables_1) room_1).applies x e0.platform about1 = true :=
  (Spec.applies_iff w_frames).mpr ⟨w_running, w_runnable, w_alone, w_named, w_hears, w_ripe, w_room, w_tables⟩
theorem atStart : AtStart classFile x code maxLocals ret World_1 tables_1 room_1 Calls_1 rest_1 Pre_1 launch0 p0 e0 about1 theMethod args0 below0 :=
  ⟨lists_1, trivial, launch0.admits_env _ _ _, launch0.least_env, fairChoices_fair.cas, fairChoices_fair.clock, w_frames, w_args, w_heap, w_applies, trivial, trivial, w_case⟩
end start1
theorem witness_1 : WitnessClaimed_1 := ⟨start1.p0, start1.e0, start1.about1, start1.theMethod, start1.args0, start1.below0, start1.atStart⟩
end Jvm.Pilot.@@N@@
