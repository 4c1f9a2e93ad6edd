import JvmDerived
import JvmDerived.Pilot.@@N@@Statement
import JvmDerived.Pilot.@@N@@Code
set_option linter.unusedVariables false
set_option linter.unusedSimpArgs false
namespace Jvm.RoadKit
open Sem ClassFile Op Lib Jvm.Stand Jvm.Free Jvm.LawKit
section New
variable {p : Program} {l : Launch} {e : Env} {R : Room} {s : State} {m : MethodId} {args : Array Value} {below : List Frame} {meth : Method} {c : Code} {T : State} {locs : List Loc} {cells slots : Nat}
theorem retI (X : Stand p l e R s m args below meth c T locs cells slots) (hx : p.tables.exec = Jvm.exec) {pc : Nat} {Ls : Array Slot} {z : Int32} {rest : List Value} (hret : meth.sig.returnType = some .int) (hd : decode c.code pc = .ok (.ireturn, 1)) {fs : List Frame}
    (hl : ∀ (f : JFrame) (acts : List Action), f.method = m → f.locked = none → f.entered = [] → (doReturn e (T.setTop f) acts (some (.int z))).1 = T.setFrames fs) : Steps p.tables e below (T.setTop (mkF m pc Ls (.int z :: rest))) (T.setFrames fs) := by
  have hm' : T.vm.method? m = some meth := X.method'
  have hn : narrow .int (.int z) = .int z := rfl
  show Steps p.tables e below (T.setTop { method := m, pc := pc, locals := Ls, stack := _ :: rest, locked := none }) _
  jvm_step X.here [X.here.top, hx, hd, hm', hret, hn]
  first | (intro acts; rw [hl _ acts rfl rfl rfl]) | rw [hl _ _ rfl rfl rfl]
  exact Steps.refl _
end New
end Jvm.RoadKit
namespace Jvm.Pilot.@@N@@
open Jvm Jvm.ClassFile Sem Op Lib Jvm.Free Jvm.Stand Jvm.LawKit Jvm.RoadKit Bundle Jvm.Pilot.@@N@@.Jvm.D
/-- from the state A the run comes to the state B -/
def own_go (p : Program) (e : Env) (below : List Frame) (A B : State) : Prop := ∀ t, Steps p.tables e below B t → Steps p.tables e below A t
theorem own_wide {p : Program} {l : Launch} {e : Env} {R : Room} {s : State} {m : MethodId} {args : Array Value} {below : List Frame} {meth : Method} {c : Code} {T : State} {locs : List Loc} {cells slots k n : Nat} (X : Stand p l e R s m args below meth c T locs cells slots) (h1 : cells ≤ k) (h2 : slots ≤ n) : Stand p l e R s m args below meth c T locs k n :=
  { X with same := X.same.weaken (fun _ h _ => h) h1 h2 }
theorem own_hp {T : State} {h : Heap} {a : Addr} {c : Cell} (e : T.heap = h) (q : h[a]? = some c) : T.heap[a]? = some c := by rw [e]; exact q
theorem own_getD {α : Type} (f : α → Value) : ∀ (l : List α) (d : α) (k : Nat), (l.map f).getD k (f d) = f (l.getD k d)
  | [], _, _ => rfl
  | _ :: _, _, 0 => rfl
  | _ :: t, d, k + 1 => own_getD f t d k
theorem d7_0 : decode jdk_18_method_1_code 0 = .ok (.aload_n 0, 1) := by decide +kernel
theorem d7_1 : decode jdk_18_method_1_code 1 = .ok (.invokespecial 1, 3) := by decide +kernel
theorem d7_4 : decode jdk_18_method_1_code 4 = .ok (.return_, 1) := by decide +kernel
theorem own_pn_java_lang_Number : plainName "java/lang/Number" = true := by first | (simp [plainName, overriddenIn]; done) | decide +kernel
theorem ef_7 (m : MethodId) (x0 : Addr) : entryFrame m #[(.ref x0)] 1 = mkF m 0 #[.val (.ref x0)] [] := by first | (simp [entryFrame, mkF, argsToLocals, Value.category]; done) | rfl
def Q7 (Z : State) (a1 : Addr) (h0 : Heap) (n0 : Nat) (v : Option Value) (h : Heap) (L : List Loc) : Prop := v = none ∧ Fr n0 L ∧ h = h0
set_option maxRecDepth 65536 in
set_option maxHeartbeats 40000000 in
theorem rm7 (l : Launch) (Z : State) (a0 : Array Value) (hw : ∀ d ∈ tables_1, d.before a0 Z = true) (ws : List Jvm.Cond) (a1 : Addr) (h0 : Heap) (n0 : Nat) (Z0 : n0 ≤ h0.size) :
    MetFree l (⟨"java/lang/Number", "<init>", "()V"⟩ : MethodName) (head1 (Jvm.Cond.code (⟨"java/lang/Number", "<init>", "()V"⟩ : MethodName) jdk_18_method_1_code 1 none :: ws) ({ frames := 1, cells := 0, slots := 0, locals := 12 } : Room)) (fun aax UU => aax = #[(.ref a1)] ∧ Z.Warmed39 UU.vm ∧ UU.heap = h0) (fun _ _ _ _ _ => True) (fun _ UU oux UU' => ∃ rvx Lrx, oux = .returned rvx ∧ Q7 Z a1 h0 n0 rvx UU'.heap Lrx ∧ FrameEnd UU oux UU' Lrx ({ frames := 1, cells := 0, slots := 0, locals := 12 } : Room).cells ({ frames := 1, cells := 0, slots := 0, locals := 12 } : Room).slots) := by
  refine MetFree.of_bodySF (plainFor_of_name own_pn_java_lang_Number) hisR ?_
  intro p e s m args below meth c s₁ Bd hml0 hP hK
  obtain ⟨rfl, hZ, hh⟩ := hP
  have hx := Bd.exec
  have hby := Bd.bytes
  have hml : c.maxLocals = 1 := hml0
  have hown : s.vm.findClass "java/lang/Number" = some m.cls := findClass_of_methodNamed Bd.named
  have hnm := (name_of_methodNamed Bd.named Bd.method).1
  have X0 : Stand p l e ({ frames := 1, cells := 0, slots := 0, locals := 12 } : Room) s m #[(.ref a1)] below meth c s₁ [] 0 0 := Stand.of_body Bd
  have e0 : s₁.heap = h0 := by rw [← hh, Bd.state]; rfl
  have N0 := Fr.nil n0
  have p0 : own_go p e below (s₁.setTop (entryFrame m #[(.ref a1)] 1)) (s₁.setTop (mkF m 0 #[.val (.ref a1)] [])) := fun ttx ktx => castTop (ef_7 m a1) ktx
  obtain ⟨T1, X1, e1, st1⟩ := initO X0 hx hZ hown (hw _ (List.mem_of_getElem? (i := 53) rfl)) (hw _ (List.mem_of_getElem? (i := 18) rfl)) (hw _ (List.mem_of_getElem? (i := 19) rfl)) e0 (g := (mkF m 1 #[.val (.ref a1)] [(.ref a1)])) rfl (by rw [hml]; rfl) rfl (hb hby d7_1) (by decide) (W := 0) (by show 2 * 0 + _ ≤ _; exact Nat.le_of_eq rfl) (by decide)
  have go2 : own_go p e below (s₁.setTop (entryFrame m #[(.ref a1)] 1)) (T1.setTop (mkF m 4 #[.val (.ref a1)] [])) := by
    intro ttx ktx
    refine p0 ttx ?_
    show Steps p.tables e below (s₁.setTop (mkF m 0 #[.val (.ref a1)] [])) _
    refine XS.aloadN X0.here hx rfl (hb hby d7_0) rfl rfl ?_
    show Steps p.tables e below (s₁.setTop (mkF m 1 #[.val (.ref a1)] [(.ref a1)])) _
    refine st1 _ ?_
    exact ktx
  obtain ⟨fs, hr, hrun, hended, hW, hsame⟩ := X1.leave (v := none) (fun _ => rfl)
  refine ⟨_, _, go2 _ ?_, hrun, hended, _, _, rfl, ?_, ⟨_, rfl⟩, hW, hsame.mono (by decide) (by decide)⟩
  · exact X1.returnOut hx Bd.returns (hb hby d7_4) hr
  · show Q7 Z a1 h0 n0 _ T1.heap _
    rw [e1]
    exact ⟨rfl, N0, rfl⟩
theorem d6_0 : decode jdk_33_method_23_code 0 = .ok (.aload_n 0, 1) := by decide +kernel
theorem own_pd0 : parseMethodDescriptor "()V" = some ⟨[], none⟩ := by decide +kernel
theorem d6_1 : decode jdk_33_method_23_code 1 = .ok (.invokespecial 202, 3) := by decide +kernel
theorem d6_4 : decode jdk_33_method_23_code 4 = .ok (.aload_n 0, 1) := by decide +kernel
theorem d6_5 : decode jdk_33_method_23_code 5 = .ok (.iload_n 1, 1) := by decide +kernel
theorem d6_6 : decode jdk_33_method_23_code 6 = .ok (.putfield 205, 3) := by decide +kernel
theorem d6_9 : decode jdk_33_method_23_code 9 = .ok (.return_, 1) := by decide +kernel
theorem own_pn_java_lang_Integer : plainName "java/lang/Integer" = true := by first | (simp [plainName, overriddenIn]; done) | decide +kernel
theorem ef_6 (m : MethodId) (x0 : Addr) (x1 : Int32) : entryFrame m #[(.ref x0), (.int x1)] 2 = mkF m 0 #[.val (.ref x0), .val (.int x1)] [] := by first | (simp [entryFrame, mkF, argsToLocals, Value.category]; done) | rfl
def Q6 (Z : State) (a1 : Addr) (z : Int32) (h0 : Heap) (n0 : Nat) (v : Option Value) (h : Heap) (L : List Loc) : Prop := v = none ∧ Fr n0 L ∧ Keep h0 h [a1] ∧ Exa Z h a1 "java/lang/Integer" ∧ Fld Z h a1 "java/lang/Integer" "value" "I" (.int z)
set_option maxRecDepth 65536 in
set_option maxHeartbeats 40000000 in
theorem rm6 (l : Launch) (Z : State) (a0 : Array Value) (hw : ∀ d ∈ tables_1, d.before a0 Z = true) (ws : List Jvm.Cond) (a1 : Addr) (z : Int32) (h0 : Heap) (n0 : Nat) (Z0 : n0 ≤ h0.size) (E_a1 : Exa Z h0 a1 "java/lang/Integer") (g_a1 : n0 ≤ a1) (F_value : Fld Z h0 a1 "java/lang/Integer" "value" "I" (.int (0 : Int32))) :
    MetFree l (⟨"java/lang/Integer", "<init>", "(I)V"⟩ : MethodName) (head1 (Jvm.Cond.code (⟨"java/lang/Integer", "<init>", "(I)V"⟩ : MethodName) jdk_33_method_23_code 2 none :: ws) ({ frames := 2, cells := 0, slots := 0, locals := 24 } : Room)) (fun aax UU => aax = #[(.ref a1), (.int z)] ∧ Z.Warmed39 UU.vm ∧ UU.heap = h0) (fun _ _ _ _ _ => True) (fun _ UU oux UU' => ∃ rvx Lrx, oux = .returned rvx ∧ Q6 Z a1 z h0 n0 rvx UU'.heap Lrx ∧ FrameEnd UU oux UU' Lrx ({ frames := 2, cells := 0, slots := 0, locals := 24 } : Room).cells ({ frames := 2, cells := 0, slots := 0, locals := 24 } : Room).slots) := by
  refine MetFree.of_bodySF (plainFor_of_name own_pn_java_lang_Integer) hisR ?_
  intro p e s m args below meth c s₁ Bd hml0 hP hK
  obtain ⟨rfl, hZ, hh⟩ := hP
  have hx := Bd.exec
  have hby := Bd.bytes
  have hml : c.maxLocals = 2 := hml0
  have hown : s.vm.findClass "java/lang/Integer" = some m.cls := findClass_of_methodNamed Bd.named
  have hnm := (name_of_methodNamed Bd.named Bd.method).1
  have X0 : Stand p l e ({ frames := 2, cells := 0, slots := 0, locals := 24 } : Room) s m #[(.ref a1), (.int z)] below meth c s₁ [] 0 0 := Stand.of_body Bd
  have e0 : s₁.heap = h0 := by rw [← hh, Bd.state]; rfl
  have N0 := Fr.nil n0
  have p0 : own_go p e below (s₁.setTop (entryFrame m #[(.ref a1), (.int z)] 2)) (s₁.setTop (mkF m 0 #[.val (.ref a1), .val (.int z)] [])) := fun ttx ktx => castTop (ef_6 m a1 z) ktx
  obtain ⟨_, _, ⟨T1, L1, k1, n1⟩, -, X1, ⟨Lc1, hQ1, l1, y1, z1⟩, st1⟩ := X0.specialBack hx (y := (⟨"java/lang/Number", "<init>", "()V"⟩ : MethodName)) rfl hown (mvT hZ (hw _ (List.mem_of_getElem? (i := 47) rfl))) (mvT hZ (hw _ (List.mem_of_getElem? (i := 48) rfl))) (mvT hZ (hw _ (List.mem_of_getElem? (i := 52) rfl))) (by decide) (backOf (W := 0) (rm7 l Z a0 hw [] a1  h0 n0 Z0 ) hZ (hw _ (List.mem_of_getElem? (i := 52) rfl)) (hw _ (List.mem_of_getElem? (i := 51) rfl)) (by decide) (by decide)) (g := (mkF m 1 #[.val (.ref a1), .val (.int z)] [(.ref a1)])) rfl (by rw [hml]; rfl) (Steps.refl _) (a := a1) (argsL := []) (rest := []) (lenOf own_pd0 rfl) rfl (by show 2 * 0 + _ ≤ _; exact Nat.le_of_eq rfl) (hb hby d6_1) (fun _ _ => ⟨rfl, e0, (by decide : 0 + 0 ≤ _), (by decide : 0 + 0 ≤ _)⟩)
  dsimp only [Pt.U, Pt.locs, Pt.cells, Pt.slots] at X1 l1 y1 z1 st1 hQ1
  rw [l1, y1, z1] at X1
  obtain ⟨rfl, Nq1, e1⟩ := hQ1
  have N1 := Fr.app N0 Nq1
  obtain ⟨T2, h2, X2, e2, W2, st2⟩ := putF X1 hx hZ hown (host := "") (Or.inl (hw _ (List.mem_of_getElem? (i := 40) rfl))) Via.refl e1 F_value E_a1 (Or.inr ⟨(hw _ (List.mem_of_getElem? (i := 41) rfl)), rfl, hnm⟩) (hw _ (List.mem_of_getElem? (i := 43) rfl)) (ty := .int) (by decide) rfl rfl (g := (mkF m 6 #[.val (.ref a1), .val (.int z)] [(.int z), (.ref a1)])) rfl rfl (hb hby d6_6)
  have Z2 : n0 ≤ h2.size := Nat.le_trans Z0 (Nat.le_of_eq W2.size.symm)
  have K2 : Keep h0 h2 [a1] := (Keep.refl h0 [a1]).wr W2 (Or.inl (List.mem_of_getElem? (i := 0) rfl))
  have N2 := Fr.snoc X2 N1 g_a1
  have Fw2 := F_value.same W2
  have go3 : own_go p e below (s₁.setTop (entryFrame m #[(.ref a1), (.int z)] 2)) (T2.setTop (mkF m 9 #[.val (.ref a1), .val (.int z)] [])) := by
    intro ttx ktx
    refine p0 ttx ?_
    show Steps p.tables e below (s₁.setTop (mkF m 0 #[.val (.ref a1), .val (.int z)] [])) _
    refine XS.aloadN X0.here hx rfl (hb hby d6_0) rfl rfl ?_
    show Steps p.tables e below (s₁.setTop (mkF m 1 #[.val (.ref a1), .val (.int z)] [(.ref a1)])) _
    refine st1.trans ?_
    show Steps p.tables e below (T1.setTop (mkF m 4 #[.val (.ref a1), .val (.int z)] [])) _
    refine XS.aloadN X1.here hx rfl (hb hby d6_4) rfl rfl ?_
    show Steps p.tables e below (T1.setTop (mkF m 5 #[.val (.ref a1), .val (.int z)] [(.ref a1)])) _
    refine XS.iloadN X1.here hx rfl (hb hby d6_5) rfl ?_
    show Steps p.tables e below (T1.setTop (mkF m 6 #[.val (.ref a1), .val (.int z)] [(.int z), (.ref a1)])) _
    refine st2 _ ?_
    exact ktx
  obtain ⟨fs, hr, hrun, hended, hW, hsame⟩ := X2.leave (v := none) (fun _ => rfl)
  refine ⟨_, _, go3 _ ?_, hrun, hended, _, _, rfl, ?_, ⟨_, rfl⟩, hW, hsame.mono (by decide) (by decide)⟩
  · exact X2.returnOut hx Bd.returns (hb hby d6_9) hr
  · show Q6 Z a1 z h0 n0 _ T2.heap _
    rw [e2]
    have f4 := (E_a1.wr W2)
    exact ⟨rfl, N2, K2, f4, Fw2⟩
theorem own_fld {a0 : Array Value} {s : State} {eT sub : Term} {LC d : String} {i : Nat} {b : Addr} {val : Value} (heB : eT.eval a0 s none [i] s = some (.ref b)) (hsub : sub.eval a0 s none [i] s = some val) (heq : (Jvm.Cond.eq (Term.field eT LC "value" d) sub).value a0 s none s [i] = some true) (hvi : (∃ x, val = .int x) ∨ ∃ x, val = .long x) : Fld s s.heap b LC "value" d val := by
  cases hfo : s.fieldOf? b LC "value" d with
  | none =>
    have hu : (Term.field eT LC "value" d).eval a0 s none [i] s = none := by simp [Term.eval, heB, hfo]
    simp [Cond.value, hu] at heq
  | some u =>
    have hu : (Term.field eT LC "value" d).eval a0 s none [i] s = some u := by simp [Term.eval, heB, hfo]
    rcases hvi with ⟨x, rfl⟩ | ⟨x, rfl⟩
    · cases u <;> simp [Cond.value, hu, hsub] at heq
      subst heq
      exact Fld.start hfo
    · cases u <;> simp [Cond.value, hu, hsub] at heq
      subst heq
      exact Fld.start hfo
theorem own_elem {a0 : Array Value} {s : State} {cT sub : Term} {LC d : String} {i : Nat} {t : Addr} {cl : Cell} {val : Value} (evC : cT.eval a0 s none [i] s = some (.ref t)) (hat : s.arrayAt? t = some cl) (hnn : ¬ i.toInt32 < 0) (hback : i.toInt32.toNatClampNeg = i) (hsub : sub.eval a0 s none [i] s = some val)
    (hex : (Jvm.Cond.exactly (Term.elem cT (Term.index 0)) LC).value a0 s none s [i] = some true) (heq : (Jvm.Cond.eq (Term.field (Term.elem cT (Term.index 0)) LC "value" d) sub).value a0 s none s [i] = some true) (hvi : (∃ x, val = .int x) ∨ ∃ x, val = .long x) : ∃ b : Addr, cl.slots[i]? = some (.ref b) ∧ Exa s s.heap b LC ∧ Fld s s.heap b LC "value" d val := by
  have evE : (Term.elem cT (Term.index 0)).eval a0 s none [i] s = cl.slots[i]? := by
    simp [Term.eval, evC, hnn, hat, hback]
  obtain ⟨b, cB, cellB, kB, heB, -⟩ := Cond.exactly_spec (show (Jvm.Cond.exactly (Term.elem cT (Term.index 0)) LC).holds a0 s none s [i] = true from by simp only [Cond.holds, hex]; rfl)
  exact ⟨b, evE.symm.trans heB, exa_at heB hex, own_fld heB hsub heq hvi⟩
def own_cache (Z : State) : Prop := ∃ (t : Addr) (cl : Cell), Sta Z Z.heap "java/lang/Integer$IntegerCache" "cache" "[Ljava/lang/Integer;" (.ref t) ∧ Arr Z Z.heap t cl (.object "java/lang/Integer") ∧ Sta Z Z.heap "java/lang/Integer$IntegerCache" "high" "I" (.int 127) ∧ ∀ w : Int32, ¬ w < -128 → ¬ 127 < w → ¬ ((w + 128) < 0 ∨ cl.slots.size ≤ (w + 128).toNatClampNeg) ∧ ∃ b : Addr, cl.slots[(w + 128).toNatClampNeg]? = some (.ref b) ∧ Exa Z Z.heap b "java/lang/Integer" ∧ Fld Z Z.heap b "java/lang/Integer" "value" "I" (.int w)
set_option maxRecDepth 65536 in
theorem own_cache_of {a0 : Array Value} {s : State} (hw : ∀ d ∈ tables_1, d.before a0 s = true) (hs : ∀ d ∈ jdkStatics_1, d.before a0 s = true) (hf : Fit s) : own_cache s := by
  obtain ⟨v, ev, -⟩ := static_fit hf (hs _ (List.mem_of_getElem? (i := 2) rfl)) (ty := .array (.object "java/lang/Integer")) (by decide)
  obtain ⟨t, cl, rfl, hA, harr, hvm⟩ := IntBox.arrayOf_fwd (hs _ (List.mem_of_getElem? (i := 4) rfl)) ev
  have S : Sta s s.heap "java/lang/Integer$IntegerCache" "cache" "[Ljava/lang/Integer;" (.ref t) := Sta.start ev (Or.inr ⟨(hw _ (List.mem_of_getElem? (i := 7) rfl)), (hs _ (List.mem_of_getElem? (i := 2) rfl))⟩)
  obtain ⟨vh, evh, hfh⟩ := static_fit hf (hs _ (List.mem_of_getElem? (i := 0) rfl)) (ty := .int) (by decide)
  obtain ⟨xh, rfl⟩ := fit_I hfh (Or.inl rfl)
  have heh : xh = 127 := by
    have q := Cond.before_iff.mp (hs _ (List.mem_of_getElem? (i := 3) rfl))
    have r := (Cond.eq_ints evh (Term.int_eval (127))).symm.trans q
    exact of_decide_eq_true (Option.some.inj r)
  subst heh
  have Sh : Sta s s.heap "java/lang/Integer$IntegerCache" "high" "I" (.int 127) := Sta.start evh (Or.inl (hs _ (List.mem_of_getElem? (i := 1) rfl)))
  have hat := IntBox.arrayAt_of hA harr hvm
  obtain ⟨hsz, hsize⟩ := IntBox.length_fwd (hs _ (List.mem_of_getElem? (i := 6) rfl)) ev hA harr hvm
  have hsz256 : cl.slots.size = 256 := by
    have e : (cl.slots.size.toInt32).toInt = cl.slots.size := by
      have : (cl.slots.size.toInt32).toInt = (cl.slots.size : Int).bmod (2 ^ 32) := by simp [Nat.toInt32, Int32.size]
      rw [this]; simp [Int.bmod]; omega
    rw [hsize] at e
    have : ((256 : Int32)).toInt = 256 := by decide
    omega
  have hall := Cond.all_elim ev hat (Cond.before_iff.mp (hs _ (List.mem_of_getElem? (i := 7) rfl)))
  refine ⟨t, cl, S, ⟨hA, harr, hvm⟩, Sh, fun w h1 h2 => ?_⟩
  obtain ⟨hb, hlt⟩ := IntBox.place_ok w h1 h2
  refine ⟨by rw [hsz256]; exact hb, ?_⟩
  have hj := hall _ (by rw [hsz256]; exact hlt)
  obtain ⟨hex, heq⟩ := and_e hj
  obtain ⟨hnn, hback⟩ := IntBox.place_nonneg _ hlt
  have evC : (Jvm.Term.static "java/lang/Integer$IntegerCache" "cache" "[Ljava/lang/Integer;").eval a0 s none [(w + 128).toNatClampNeg] s = some (.ref t) := ev
  have hsub : (Term.sub (Term.index 0) (Term.int 128)).eval a0 s none [(w + 128).toNatClampNeg] s = some (.int w) := by
    conv => rhs; rw [← IntBox.place_val w h1 h2]
    rfl
  exact own_elem evC hat hnn hback hsub hex heq (Or.inl ⟨w, rfl⟩)
theorem d1_0 : decode jdk_33_method_22_code 0 = .ok (.iload_n 0, 1) := by decide +kernel
theorem d1_1 : decode jdk_33_method_22_code 1 = .ok (.bipush (-128), 2) := by decide +kernel
theorem d1_3 : decode jdk_33_method_22_code 3 = .ok (.if_icmp .lt 20, 3) := by decide +kernel
theorem d1_23 : decode jdk_33_method_22_code 23 = .ok (.new 1, 3) := by decide +kernel
theorem d1_26 : decode jdk_33_method_22_code 26 = .ok (.dup, 1) := by decide +kernel
theorem d1_27 : decode jdk_33_method_22_code 27 = .ok (.iload_n 0, 1) := by decide +kernel
theorem own_pd1 : parseMethodDescriptor "(I)V" = some ⟨[.int], none⟩ := by decide +kernel
theorem d1_28 : decode jdk_33_method_22_code 28 = .ok (.invokespecial 199, 3) := by decide +kernel
theorem d1_31 : decode jdk_33_method_22_code 31 = .ok (.areturn, 1) := by decide +kernel
theorem d1_6 : decode jdk_33_method_22_code 6 = .ok (.iload_n 0, 1) := by decide +kernel
theorem d1_7 : decode jdk_33_method_22_code 7 = .ok (.getstatic 191, 3) := by decide +kernel
theorem d1_10 : decode jdk_33_method_22_code 10 = .ok (.if_icmp .gt 13, 3) := by decide +kernel
theorem d1_13 : decode jdk_33_method_22_code 13 = .ok (.getstatic 195, 3) := by decide +kernel
theorem d1_16 : decode jdk_33_method_22_code 16 = .ok (.iload_n 0, 1) := by decide +kernel
theorem d1_17 : decode jdk_33_method_22_code 17 = .ok (.sipush 128, 3) := by decide +kernel
theorem d1_20 : decode jdk_33_method_22_code 20 = .ok (.iadd, 1) := by decide +kernel
theorem d1_21 : decode jdk_33_method_22_code 21 = .ok (.aaload, 1) := by decide +kernel
theorem d1_22 : decode jdk_33_method_22_code 22 = .ok (.areturn, 1) := by decide +kernel
theorem ef_VO (m : MethodId) (x0 : Int32) : entryFrame m #[(.int x0)] 1 = mkF m 0 #[.val (.int x0)] [] := by first | (simp [entryFrame, mkF, argsToLocals, Value.category]; done) | rfl
def QVO (Z : State) (z : Int32) (h0 : Heap) (n0 : Nat) (v : Option Value) (h : Heap) (L : List Loc) : Prop := ∃ b : Addr, v = some (.ref b) ∧ Fr n0 L ∧ Keep h0 h [] ∧ Exa Z h b "java/lang/Integer" ∧ Fld Z h b "java/lang/Integer" "value" "I" (.int z) ∧ (∀ x : Addr, n0 ≤ x → x < h0.size → b ≠ x)
set_option maxRecDepth 65536 in
set_option maxHeartbeats 40000000 in
theorem rmVO (l : Launch) (Z : State) (a0 : Array Value) (hw : ∀ d ∈ tables_1, d.before a0 Z = true) (ws : List Jvm.Cond) (z : Int32) (h0 : Heap) (n0 : Nat) (Z0 : n0 ≤ h0.size) (O0 : Old Z n0 h0) (hcache : own_cache Z) :
    MetFree l (⟨"java/lang/Integer", "valueOf", "(I)Ljava/lang/Integer;"⟩ : MethodName) (head1 (Jvm.Cond.code (⟨"java/lang/Integer", "valueOf", "(I)Ljava/lang/Integer;"⟩ : MethodName) jdk_33_method_22_code 1 (some (.object "java/lang/Integer")) :: ws) ({ frames := 3, cells := 1, slots := 1, locals := 38 } : Room)) (fun aax UU => aax = #[(.int z)] ∧ Z.Warmed39 UU.vm ∧ UU.heap = h0) (fun _ _ _ _ _ => True) (fun _ UU oux UU' => ∃ rvx Lrx, oux = .returned rvx ∧ QVO Z z h0 n0 rvx UU'.heap Lrx ∧ FrameEnd UU oux UU' Lrx ({ frames := 3, cells := 1, slots := 1, locals := 38 } : Room).cells ({ frames := 3, cells := 1, slots := 1, locals := 38 } : Room).slots) := by
  refine MetFree.of_bodySF (plainFor_of_name own_pn_java_lang_Integer) hisR ?_
  intro p e s m args below meth c s₁ Bd hml0 hP hK
  obtain ⟨rfl, hZ, hh⟩ := hP
  have hx := Bd.exec
  have hby := Bd.bytes
  have hml : c.maxLocals = 1 := hml0
  have hown : s.vm.findClass "java/lang/Integer" = some m.cls := findClass_of_methodNamed Bd.named
  have hnm := (name_of_methodNamed Bd.named Bd.method).1
  have X0 : Stand p l e ({ frames := 3, cells := 1, slots := 1, locals := 38 } : Room) s m #[(.int z)] below meth c s₁ [] 0 0 := Stand.of_body Bd
  have e0 : s₁.heap = h0 := by rw [← hh, Bd.state]; rfl
  have N0 := Fr.nil n0
  have p0 : own_go p e below (s₁.setTop (entryFrame m #[(.int z)] 1)) (s₁.setTop (mkF m 0 #[.val (.int z)] [])) := fun ttx ktx => castTop (ef_VO m z) ktx
  obtain ⟨tc, clc, Sc, Arc, Sh, hcl⟩ := hcache
  have S0 := Sc.ext O0.2
  have Ar0 := Arc.ext O0.2
  have S1 := Sh.ext O0.2
  have go1 : own_go p e below (s₁.setTop (entryFrame m #[(.int z)] 1)) (s₁.setTop (mkF m 3 #[.val (.int z)] [(.int (-128 : Int32)), (.int z)])) := by
    intro ttx ktx
    refine p0 ttx ?_
    show Steps p.tables e below (s₁.setTop (mkF m 0 #[.val (.int z)] [])) _
    refine XS.iloadN X0.here hx rfl (hb hby d1_0) rfl ?_
    show Steps p.tables e below (s₁.setTop (mkF m 1 #[.val (.int z)] [(.int z)])) _
    refine XS.bipush X0.here hx rfl (hb hby d1_1) ?_
    exact ktx
  by_cases hc2_3 : z < (-128 : Int32)
  · obtain ⟨T3, h3, X3, e3, E3, A3, D3, -, st3⟩ := newO X0 hx hZ hown (hw _ (List.mem_of_getElem? (i := 42) rfl)) (hw _ (List.mem_of_getElem? (i := 43) rfl)) (hw _ (List.mem_of_getElem? (i := 4) rfl)) e0 (g := (mkF m 23 #[.val (.int z)] [])) rfl (hb hby d1_23) (by decide) (by decide)
    obtain ⟨b3, g3⟩ : ∃ z, z = h0.size := ⟨_, rfl⟩
    rw [← g3] at A3 D3 st3
    have g_b3 : n0 ≤ b3 := Nat.le_trans Z0 (Nat.le_of_eq g3.symm)
    have sz_b3 : h0.size ≤ b3 := Nat.le_trans (Keep.refl h0 []).1 (Nat.le_of_eq g3.symm)
    have Z3 : n0 ≤ h3.size := Nat.le_trans Z0 E3.1
    have K3 : Keep h0 h3 [] := (Keep.refl h0 []).ext E3
    have F3_value : Fld Z h3 b3 "java/lang/Integer" "value" "I" (.int (0 : Int32)) := D3 (Or.inr (hw _ (List.mem_of_getElem? (i := 41) rfl))) (ty := .int) (by decide)
    obtain ⟨_, _, ⟨T4, L4, k4, n4⟩, -, X4, ⟨Lc4, hQ4, l4, y4, z4⟩, st4⟩ := X3.specialBack hx (y := (⟨"java/lang/Integer", "<init>", "(I)V"⟩ : MethodName)) rfl hown (mvT hZ (hw _ (List.mem_of_getElem? (i := 44) rfl))) (mvT hZ (hw _ (List.mem_of_getElem? (i := 45) rfl))) (mvT hZ (hw _ (List.mem_of_getElem? (i := 46) rfl))) (by decide) (backOf (W := 1) (rm6 l Z a0 hw [] b3 z  h3 n0 Z3 A3 g_b3 F3_value) hZ (hw _ (List.mem_of_getElem? (i := 46) rfl)) (hw _ (List.mem_of_getElem? (i := 4) rfl)) (by decide) (by decide)) (g := (mkF m 28 #[.val (.int z)] [(.int z), (.ref b3), (.ref b3)])) rfl (by rw [hml]; rfl) (Steps.refl _) (a := b3) (argsL := [(.int z)]) (rest := [(.ref b3)]) (lenOf own_pd1 rfl) rfl (by show 2 * 0 + _ ≤ _; exact Nat.le_of_eq rfl) (hb hby d1_28) (fun _ _ => ⟨rfl, e3, (by decide : 1 + 0 ≤ _), (by decide : 1 + 0 ≤ _)⟩)
    dsimp only [Pt.U, Pt.locs, Pt.cells, Pt.slots] at X4 l4 y4 z4 st4 hQ4
    rw [l4, y4, z4] at X4
    obtain ⟨rfl, Nq4, Kq4, Eq4, Fq4_value⟩ := hQ4
    have N4 := Fr.app N0 Nq4
    have Z4 : n0 ≤ T4.heap.size := Nat.le_trans Z3 Kq4.1
    have K4 : Keep h0 T4.heap [] := K3.trans Kq4 (allS (Or.inr sz_b3) all0)
    have go5 : own_go p e below (s₁.setTop (entryFrame m #[(.int z)] 1)) (T4.setTop (mkF m 31 #[.val (.int z)] [(.ref b3)])) := by
      intro ttx ktx
      refine go1 ttx ?_
      show Steps p.tables e below (s₁.setTop (mkF m 3 #[.val (.int z)] [(.int (-128 : Int32)), (.int z)])) _
      refine XS.icmpYes X0.here hx rfl (pc0 := 3) (pc' := 23) rfl (hb hby d1_3) rfl (tlt hc2_3).1 (by decide) (by decide) ?_
      show Steps p.tables e below (s₁.setTop (mkF m 23 #[.val (.int z)] [])) _
      refine st3 _ ?_
      show Steps p.tables e below (T3.setTop (mkF m 26 #[.val (.int z)] [(.ref b3)])) _
      refine XS.dup X3.here hx rfl (hb hby d1_26) rfl rfl ?_
      show Steps p.tables e below (T3.setTop (mkF m 27 #[.val (.int z)] [(.ref b3), (.ref b3)])) _
      refine XS.iloadN X3.here hx rfl (hb hby d1_27) rfl ?_
      show Steps p.tables e below (T3.setTop (mkF m 28 #[.val (.int z)] [(.int z), (.ref b3), (.ref b3)])) _
      refine st4.trans ?_
      exact ktx
    obtain ⟨fs, hr, hrun, hended, hW, hsame⟩ := X4.leave (v := some (.ref b3)) (fun h => by rw [Bd.returns] at h; cases h)
    refine ⟨_, _, go5 _ ?_, hrun, hended, _, _, rfl, ?_, ⟨_, rfl⟩, hW, hsame.mono (by decide) (by decide)⟩
    · exact retOut X4 hx Bd.returns rfl (Or.inr (Or.inr (Or.inr (Or.inr ⟨rfl, rfl, rfl⟩)))) (hb hby d1_31) hr
    · show QVO Z z h0 n0 _ T4.heap _
      exact ⟨b3, rfl, N4, K4, Eq4, Fq4_value, fun x h1 h2 => Nat.ne_of_gt (Nat.lt_of_lt_of_le h2 sz_b3)⟩
  · obtain ⟨T6, X6, e6, st6⟩ := getS2 X0 hx hZ hown (host := "") (Or.inl (hw _ (List.mem_of_getElem? (i := 6) rfl))) Via.refl e0 S1 (g := (mkF m 7 #[.val (.int z)] [(.int z)])) rfl (hb hby d1_7)
    have go7 : own_go p e below (s₁.setTop (entryFrame m #[(.int z)] 1)) (T6.setTop (mkF m 10 #[.val (.int z)] [(.int (127 : Int32)), (.int z)])) := by
      intro ttx ktx
      refine go1 ttx ?_
      show Steps p.tables e below (s₁.setTop (mkF m 3 #[.val (.int z)] [(.int (-128 : Int32)), (.int z)])) _
      refine XS.icmpNo X0.here hx rfl (hb hby d1_3) rfl (flt hc2_3).1 ?_
      show Steps p.tables e below (s₁.setTop (mkF m 6 #[.val (.int z)] [])) _
      refine XS.iloadN X0.here hx rfl (hb hby d1_6) rfl ?_
      show Steps p.tables e below (s₁.setTop (mkF m 7 #[.val (.int z)] [(.int z)])) _
      refine st6 _ ?_
      exact ktx
    by_cases hc8_10 : (127 : Int32) < z
    · obtain ⟨T9, h9, X9, e9, E9, A9, D9, -, st9⟩ := newO X6 hx hZ hown (hw _ (List.mem_of_getElem? (i := 42) rfl)) (hw _ (List.mem_of_getElem? (i := 43) rfl)) (hw _ (List.mem_of_getElem? (i := 4) rfl)) e6 (g := (mkF m 23 #[.val (.int z)] [])) rfl (hb hby d1_23) (by decide) (by decide)
      obtain ⟨b9, g9⟩ : ∃ z, z = h0.size := ⟨_, rfl⟩
      rw [← g9] at A9 D9 st9
      have g_b9 : n0 ≤ b9 := Nat.le_trans Z0 (Nat.le_of_eq g9.symm)
      have sz_b9 : h0.size ≤ b9 := Nat.le_trans (Keep.refl h0 []).1 (Nat.le_of_eq g9.symm)
      have Z9 : n0 ≤ h9.size := Nat.le_trans Z0 E9.1
      have K9 : Keep h0 h9 [] := (Keep.refl h0 []).ext E9
      have F9_value : Fld Z h9 b9 "java/lang/Integer" "value" "I" (.int (0 : Int32)) := D9 (Or.inr (hw _ (List.mem_of_getElem? (i := 41) rfl))) (ty := .int) (by decide)
      obtain ⟨_, _, ⟨T10, L10, k10, n10⟩, -, X10, ⟨Lc10, hQ10, l10, y10, z10⟩, st10⟩ := X9.specialBack hx (y := (⟨"java/lang/Integer", "<init>", "(I)V"⟩ : MethodName)) rfl hown (mvT hZ (hw _ (List.mem_of_getElem? (i := 44) rfl))) (mvT hZ (hw _ (List.mem_of_getElem? (i := 45) rfl))) (mvT hZ (hw _ (List.mem_of_getElem? (i := 46) rfl))) (by decide) (backOf (W := 1) (rm6 l Z a0 hw [] b9 z  h9 n0 Z9 A9 g_b9 F9_value) hZ (hw _ (List.mem_of_getElem? (i := 46) rfl)) (hw _ (List.mem_of_getElem? (i := 4) rfl)) (by decide) (by decide)) (g := (mkF m 28 #[.val (.int z)] [(.int z), (.ref b9), (.ref b9)])) rfl (by rw [hml]; rfl) (Steps.refl _) (a := b9) (argsL := [(.int z)]) (rest := [(.ref b9)]) (lenOf own_pd1 rfl) rfl (by show 2 * 0 + _ ≤ _; exact Nat.le_of_eq rfl) (hb hby d1_28) (fun _ _ => ⟨rfl, e9, (by decide : 1 + 0 ≤ _), (by decide : 1 + 0 ≤ _)⟩)
      dsimp only [Pt.U, Pt.locs, Pt.cells, Pt.slots] at X10 l10 y10 z10 st10 hQ10
      rw [l10, y10, z10] at X10
      obtain ⟨rfl, Nq10, Kq10, Eq10, Fq10_value⟩ := hQ10
      have N10 := Fr.app N0 Nq10
      have Z10 : n0 ≤ T10.heap.size := Nat.le_trans Z9 Kq10.1
      have K10 : Keep h0 T10.heap [] := K9.trans Kq10 (allS (Or.inr sz_b9) all0)
      have go11 : own_go p e below (s₁.setTop (entryFrame m #[(.int z)] 1)) (T10.setTop (mkF m 31 #[.val (.int z)] [(.ref b9)])) := by
        intro ttx ktx
        refine go7 ttx ?_
        show Steps p.tables e below (T6.setTop (mkF m 10 #[.val (.int z)] [(.int (127 : Int32)), (.int z)])) _
        refine XS.icmpYes X6.here hx rfl (pc0 := 10) (pc' := 23) rfl (hb hby d1_10) rfl (tlt hc8_10).2.2.1 (by decide) (by decide) ?_
        show Steps p.tables e below (T6.setTop (mkF m 23 #[.val (.int z)] [])) _
        refine st9 _ ?_
        show Steps p.tables e below (T9.setTop (mkF m 26 #[.val (.int z)] [(.ref b9)])) _
        refine XS.dup X9.here hx rfl (hb hby d1_26) rfl rfl ?_
        show Steps p.tables e below (T9.setTop (mkF m 27 #[.val (.int z)] [(.ref b9), (.ref b9)])) _
        refine XS.iloadN X9.here hx rfl (hb hby d1_27) rfl ?_
        show Steps p.tables e below (T9.setTop (mkF m 28 #[.val (.int z)] [(.int z), (.ref b9), (.ref b9)])) _
        refine st10.trans ?_
        exact ktx
      obtain ⟨fs, hr, hrun, hended, hW, hsame⟩ := X10.leave (v := some (.ref b9)) (fun h => by rw [Bd.returns] at h; cases h)
      refine ⟨_, _, go11 _ ?_, hrun, hended, _, _, rfl, ?_, ⟨_, rfl⟩, hW, hsame.mono (by decide) (by decide)⟩
      · exact retOut X10 hx Bd.returns rfl (Or.inr (Or.inr (Or.inr (Or.inr ⟨rfl, rfl, rfl⟩)))) (hb hby d1_31) hr
      · show QVO Z z h0 n0 _ T10.heap _
        exact ⟨b9, rfl, N10, K10, Eq10, Fq10_value, fun x h1 h2 => Nat.ne_of_gt (Nat.lt_of_lt_of_le h2 sz_b9)⟩
    · obtain ⟨T12, X12, e12, st12⟩ := getS2 X6 hx hZ hown (host := "") (Or.inl (hw _ (List.mem_of_getElem? (i := 8) rfl))) Via.refl e6 S0 (g := (mkF m 13 #[.val (.int z)] [])) rfl (hb hby d1_13)
      have Ar13 := Ar0
      obtain ⟨hin13, bx, hat13, Ebx, Fbx⟩ := hcl z hc2_3 hc8_10
      have go14 : own_go p e below (s₁.setTop (entryFrame m #[(.int z)] 1)) (T12.setTop (mkF m 22 #[.val (.int z)] [(.ref bx)])) := by
        intro ttx ktx
        refine go7 ttx ?_
        show Steps p.tables e below (T6.setTop (mkF m 10 #[.val (.int z)] [(.int (127 : Int32)), (.int z)])) _
        refine XS.icmpNo X6.here hx rfl (hb hby d1_10) rfl (flt hc8_10).2.2.1 ?_
        show Steps p.tables e below (T6.setTop (mkF m 13 #[.val (.int z)] [])) _
        refine st12 _ ?_
        show Steps p.tables e below (T12.setTop (mkF m 16 #[.val (.int z)] [(.ref tc)])) _
        refine XS.iloadN X12.here hx rfl (hb hby d1_16) rfl ?_
        show Steps p.tables e below (T12.setTop (mkF m 17 #[.val (.int z)] [(.int z), (.ref tc)])) _
        refine XS.sipush X12.here hx rfl (hb hby d1_17) ?_
        show Steps p.tables e below (T12.setTop (mkF m 20 #[.val (.int z)] [(.int (128 : Int32)), (.int z), (.ref tc)])) _
        refine XS.iadd X12.here hx rfl (hb hby d1_20) rfl ?_
        show Steps p.tables e below (T12.setTop (mkF m 21 #[.val (.int z)] [(.int (z + (128 : Int32))), (.ref tc)])) _
        refine X12.aaload hx (j := (z + (128 : Int32))) (v := (.ref bx)) (own_hp e12 Ar13.1) (State.isArrayOf_alike hZ.alike Ar13.2.1) rfl Ar13.2.2 hin13 hat13 (g := (mkF m 21 #[.val (.int z)] [(.int (z + (128 : Int32))), (.ref tc)])) rfl rfl (hb hby d1_21) _ ?_
        exact ktx
      obtain ⟨fs, hr, hrun, hended, hW, hsame⟩ := X12.leave (v := some (.ref bx)) (fun h => by rw [Bd.returns] at h; cases h)
      refine ⟨_, _, go14 _ ?_, hrun, hended, _, _, rfl, ?_, ⟨_, rfl⟩, hW, hsame.mono (by decide) (by decide)⟩
      · exact retOut X12 hx Bd.returns rfl (Or.inr (Or.inr (Or.inr (Or.inr ⟨rfl, rfl, rfl⟩)))) (hb hby d1_22) hr
      · show QVO Z z h0 n0 _ T12.heap _
        rw [e12]
        exact ⟨bx, rfl, N0, Keep.refl h0 [], Ebx.ext O0.2, Fbx.ext O0.2, fun x h1 h2 => Nat.ne_of_lt (Nat.lt_of_lt_of_le Ebx.lt (O0.1 ▸ h1))⟩
theorem d2_0 : decode prog_12_method_1_code 0 = .ok (.aload_n 0, 1) := by decide +kernel
theorem d2_1 : decode prog_12_method_1_code 1 = .ok (.invokespecial 3, 3) := by decide +kernel
theorem d2_4 : decode prog_12_method_1_code 4 = .ok (.return_, 1) := by decide +kernel
theorem own_pn_com_example_wilt_wilt_core_ExpirySlots_Run : plainName "com/example/wilt/wilt/core/ExpirySlots$Run" = true := by first | (simp [plainName, overriddenIn]; done) | decide +kernel
theorem ef_2 (m : MethodId) (x0 : Addr) : entryFrame m #[(.ref x0)] 1 = mkF m 0 #[.val (.ref x0)] [] := by first | (simp [entryFrame, mkF, argsToLocals, Value.category]; done) | rfl
def Q2 (Z : State) (a1 : Addr) (h0 : Heap) (n0 : Nat) (v : Option Value) (h : Heap) (L : List Loc) : Prop := v = none ∧ Fr n0 L ∧ h = h0
set_option maxRecDepth 65536 in
set_option maxHeartbeats 40000000 in
theorem rm2 (l : Launch) (Z : State) (a0 : Array Value) (hw : ∀ d ∈ tables_1, d.before a0 Z = true) (ws : List Jvm.Cond) (a1 : Addr) (h0 : Heap) (n0 : Nat) (Z0 : n0 ≤ h0.size) :
    MetFree l (⟨"com/example/wilt/wilt/core/ExpirySlots$Run", "<init>", "()V"⟩ : MethodName) (head1 (Jvm.Cond.code (⟨"com/example/wilt/wilt/core/ExpirySlots$Run", "<init>", "()V"⟩ : MethodName) prog_12_method_1_code 1 none :: ws) ({ frames := 1, cells := 0, slots := 0, locals := 12 } : Room)) (fun aax UU => aax = #[(.ref a1)] ∧ Z.Warmed39 UU.vm ∧ UU.heap = h0) (fun _ _ _ _ _ => True) (fun _ UU oux UU' => ∃ rvx Lrx, oux = .returned rvx ∧ Q2 Z a1 h0 n0 rvx UU'.heap Lrx ∧ FrameEnd UU oux UU' Lrx ({ frames := 1, cells := 0, slots := 0, locals := 12 } : Room).cells ({ frames := 1, cells := 0, slots := 0, locals := 12 } : Room).slots) := by
  refine MetFree.of_bodySF (plainFor_of_name own_pn_com_example_wilt_wilt_core_ExpirySlots_Run) hisR ?_
  intro p e s m args below meth c s₁ Bd hml0 hP hK
  obtain ⟨rfl, hZ, hh⟩ := hP
  have hx := Bd.exec
  have hby := Bd.bytes
  have hml : c.maxLocals = 1 := hml0
  have hown : s.vm.findClass "com/example/wilt/wilt/core/ExpirySlots$Run" = some m.cls := findClass_of_methodNamed Bd.named
  have hnm := (name_of_methodNamed Bd.named Bd.method).1
  have X0 : Stand p l e ({ frames := 1, cells := 0, slots := 0, locals := 12 } : Room) s m #[(.ref a1)] below meth c s₁ [] 0 0 := Stand.of_body Bd
  have e0 : s₁.heap = h0 := by rw [← hh, Bd.state]; rfl
  have N0 := Fr.nil n0
  have p0 : own_go p e below (s₁.setTop (entryFrame m #[(.ref a1)] 1)) (s₁.setTop (mkF m 0 #[.val (.ref a1)] [])) := fun ttx ktx => castTop (ef_2 m a1) ktx
  obtain ⟨T1, X1, e1, st1⟩ := initO X0 hx hZ hown (hw _ (List.mem_of_getElem? (i := 17) rfl)) (hw _ (List.mem_of_getElem? (i := 18) rfl)) (hw _ (List.mem_of_getElem? (i := 19) rfl)) e0 (g := (mkF m 1 #[.val (.ref a1)] [(.ref a1)])) rfl (by rw [hml]; rfl) rfl (hb hby d2_1) (by decide) (W := 0) (by show 2 * 0 + _ ≤ _; exact Nat.le_of_eq rfl) (by decide)
  have go2 : own_go p e below (s₁.setTop (entryFrame m #[(.ref a1)] 1)) (T1.setTop (mkF m 4 #[.val (.ref a1)] [])) := by
    intro ttx ktx
    refine p0 ttx ?_
    show Steps p.tables e below (s₁.setTop (mkF m 0 #[.val (.ref a1)] [])) _
    refine XS.aloadN X0.here hx rfl (hb hby d2_0) rfl rfl ?_
    show Steps p.tables e below (s₁.setTop (mkF m 1 #[.val (.ref a1)] [(.ref a1)])) _
    refine st1 _ ?_
    exact ktx
  obtain ⟨fs, hr, hrun, hended, hW, hsame⟩ := X1.leave (v := none) (fun _ => rfl)
  refine ⟨_, _, go2 _ ?_, hrun, hended, _, _, rfl, ?_, ⟨_, rfl⟩, hW, hsame.mono (by decide) (by decide)⟩
  · exact X1.returnOut hx Bd.returns (hb hby d2_4) hr
  · show Q2 Z a1 h0 n0 _ T1.heap _
    rw [e1]
    exact ⟨rfl, N0, rfl⟩
theorem d5_0 : decode jdk_33_method_27_code 0 = .ok (.aload_n 0, 1) := by decide +kernel
theorem d5_1 : decode jdk_33_method_27_code 1 = .ok (.getfield 205, 3) := by decide +kernel
theorem d5_4 : decode jdk_33_method_27_code 4 = .ok (.ireturn, 1) := by decide +kernel
theorem ef_5 (m : MethodId) (x0 : Addr) : entryFrame m #[(.ref x0)] 1 = mkF m 0 #[.val (.ref x0)] [] := by first | (simp [entryFrame, mkF, argsToLocals, Value.category]; done) | rfl
def Q5 (Z : State) (a1 : Addr) (z : Int32) (h0 : Heap) (n0 : Nat) (v : Option Value) (h : Heap) (L : List Loc) : Prop := v = some (.int z) ∧ Fr n0 L ∧ h = h0
set_option maxRecDepth 65536 in
set_option maxHeartbeats 40000000 in
theorem rm5 (l : Launch) (Z : State) (a0 : Array Value) (hw : ∀ d ∈ tables_1, d.before a0 Z = true) (ws : List Jvm.Cond) (a1 : Addr) (z : Int32) (h0 : Heap) (n0 : Nat) (Z0 : n0 ≤ h0.size) (F_value : Fld Z h0 a1 "java/lang/Integer" "value" "I" (.int z)) :
    MetFree l (⟨"java/lang/Integer", "intValue", "()I"⟩ : MethodName) (head1 (Jvm.Cond.code (⟨"java/lang/Integer", "intValue", "()I"⟩ : MethodName) jdk_33_method_27_code 1 (some .int) :: ws) ({ frames := 0, cells := 0, slots := 0, locals := 0 } : Room)) (fun aax UU => aax = #[(.ref a1)] ∧ Z.Warmed39 UU.vm ∧ UU.heap = h0) (fun _ _ _ _ _ => True) (fun _ UU oux UU' => ∃ rvx Lrx, oux = .returned rvx ∧ Q5 Z a1 z h0 n0 rvx UU'.heap Lrx ∧ FrameEnd UU oux UU' Lrx ({ frames := 0, cells := 0, slots := 0, locals := 0 } : Room).cells ({ frames := 0, cells := 0, slots := 0, locals := 0 } : Room).slots) := by
  refine MetFree.of_bodySF (plainFor_of_name own_pn_java_lang_Integer) hisR ?_
  intro p e s m args below meth c s₁ Bd hml0 hP hK
  obtain ⟨rfl, hZ, hh⟩ := hP
  have hx := Bd.exec
  have hby := Bd.bytes
  have hml : c.maxLocals = 1 := hml0
  have hown : s.vm.findClass "java/lang/Integer" = some m.cls := findClass_of_methodNamed Bd.named
  have hnm := (name_of_methodNamed Bd.named Bd.method).1
  have X0 : Stand p l e ({ frames := 0, cells := 0, slots := 0, locals := 0 } : Room) s m #[(.ref a1)] below meth c s₁ [] 0 0 := Stand.of_body Bd
  have e0 : s₁.heap = h0 := by rw [← hh, Bd.state]; rfl
  have N0 := Fr.nil n0
  have p0 : own_go p e below (s₁.setTop (entryFrame m #[(.ref a1)] 1)) (s₁.setTop (mkF m 0 #[.val (.ref a1)] [])) := fun ttx ktx => castTop (ef_5 m a1) ktx
  obtain ⟨T1, X1, e1, st1⟩ := getF X0 hx hZ hown (host := "") (Or.inl (hw _ (List.mem_of_getElem? (i := 40) rfl))) Via.refl e0 F_value (g := (mkF m 1 #[.val (.ref a1)] [(.ref a1)])) rfl rfl (hb hby d5_1)
  have go2 : own_go p e below (s₁.setTop (entryFrame m #[(.ref a1)] 1)) (T1.setTop (mkF m 4 #[.val (.ref a1)] [(.int z)])) := by
    intro ttx ktx
    refine p0 ttx ?_
    show Steps p.tables e below (s₁.setTop (mkF m 0 #[.val (.ref a1)] [])) _
    refine XS.aloadN X0.here hx rfl (hb hby d5_0) rfl rfl ?_
    show Steps p.tables e below (s₁.setTop (mkF m 1 #[.val (.ref a1)] [(.ref a1)])) _
    refine st1 _ ?_
    exact ktx
  obtain ⟨fs, hr, hrun, hended, hW, hsame⟩ := X1.leave (v := some (.int z)) (fun h => by rw [Bd.returns] at h; cases h)
  refine ⟨_, _, go2 _ ?_, hrun, hended, _, _, rfl, ?_, ⟨_, rfl⟩, hW, hsame.mono (by decide) (by decide)⟩
  · exact retI X1 hx Bd.returns (hb hby d5_4) hr
  · show Q5 Z a1 z h0 n0 _ T1.heap _
    rw [e1]
    exact ⟨rfl, N0, rfl⟩
theorem d4_0 : decode prog_12_method_9_code 0 = .ok (.aload_n 0, 1) := by decide +kernel
theorem d4_1 : decode prog_12_method_9_code 1 = .ok (.getfield 50, 3) := by decide +kernel
theorem d4_4 : decode prog_12_method_9_code 4 = .ok (.ifnonnull 7, 3) := by decide +kernel
theorem d4_7 : decode prog_12_method_9_code 7 = .ok (.aconst_null, 1) := by decide +kernel
theorem d4_8 : decode prog_12_method_9_code 8 = .ok (.goto 14, 3) := by decide +kernel
theorem d4_22 : decode prog_12_method_9_code 22 = .ok (.areturn, 1) := by decide +kernel
theorem ef_FN (m : MethodId) (x0 : Addr) (x1 : Int32) : entryFrame m #[(.ref x0), (.int x1)] 2 = mkF m 0 #[.val (.ref x0), .val (.int x1)] [] := by first | (simp [entryFrame, mkF, argsToLocals, Value.category]; done) | rfl
def QFN (Z : State) (a1 : Addr) (p2 : Int32) (h0 : Heap) (n0 : Nat) (v : Option Value) (h : Heap) (L : List Loc) : Prop := v = some .null ∧ Fr n0 L ∧ h = h0
set_option maxRecDepth 65536 in
set_option maxHeartbeats 40000000 in
theorem rmFN (l : Launch) (Z : State) (a0 : Array Value) (hw : ∀ d ∈ tables_1, d.before a0 Z = true) (ws : List Jvm.Cond) (a1 : Addr) (p2 : Int32) (h0 : Heap) (n0 : Nat) (Z0 : n0 ≤ h0.size) (F_firsts : Fld Z h0 a1 "com/example/wilt/wilt/core/ExpirySlots$Run" "firsts" "[Ljava/lang/Object;" .null) :
    MetFree l (⟨"com/example/wilt/wilt/core/ExpirySlots$Run", "first", "(I)Ljava/lang/Object;"⟩ : MethodName) (head1 (Jvm.Cond.code (⟨"com/example/wilt/wilt/core/ExpirySlots$Run", "first", "(I)Ljava/lang/Object;"⟩ : MethodName) prog_12_method_9_code 2 (some (.object "java/lang/Object")) :: ws) ({ frames := 0, cells := 0, slots := 0, locals := 0 } : Room)) (fun aax UU => aax = #[(.ref a1), (.int p2)] ∧ Z.Warmed39 UU.vm ∧ UU.heap = h0) (fun _ _ _ _ _ => True) (fun _ UU oux UU' => ∃ rvx Lrx, oux = .returned rvx ∧ QFN Z a1 p2 h0 n0 rvx UU'.heap Lrx ∧ FrameEnd UU oux UU' Lrx ({ frames := 0, cells := 0, slots := 0, locals := 0 } : Room).cells ({ frames := 0, cells := 0, slots := 0, locals := 0 } : Room).slots) := by
  refine MetFree.of_bodySF (plainFor_of_name own_pn_com_example_wilt_wilt_core_ExpirySlots_Run) hisR ?_
  intro p e s m args below meth c s₁ Bd hml0 hP hK
  obtain ⟨rfl, hZ, hh⟩ := hP
  have hx := Bd.exec
  have hby := Bd.bytes
  have hml : c.maxLocals = 2 := hml0
  have hown : s.vm.findClass "com/example/wilt/wilt/core/ExpirySlots$Run" = some m.cls := findClass_of_methodNamed Bd.named
  have hnm := (name_of_methodNamed Bd.named Bd.method).1
  have X0 : Stand p l e ({ frames := 0, cells := 0, slots := 0, locals := 0 } : Room) s m #[(.ref a1), (.int p2)] below meth c s₁ [] 0 0 := Stand.of_body Bd
  have e0 : s₁.heap = h0 := by rw [← hh, Bd.state]; rfl
  have N0 := Fr.nil n0
  have p0 : own_go p e below (s₁.setTop (entryFrame m #[(.ref a1), (.int p2)] 2)) (s₁.setTop (mkF m 0 #[.val (.ref a1), .val (.int p2)] [])) := fun ttx ktx => castTop (ef_FN m a1 p2) ktx
  obtain ⟨T1, X1, e1, st1⟩ := getF X0 hx hZ hown (host := "") (Or.inl (hw _ (List.mem_of_getElem? (i := 31) rfl))) Via.refl e0 F_firsts (g := (mkF m 1 #[.val (.ref a1), .val (.int p2)] [(.ref a1)])) rfl rfl (hb hby d4_1)
  have go2 : own_go p e below (s₁.setTop (entryFrame m #[(.ref a1), (.int p2)] 2)) (T1.setTop (mkF m 22 #[.val (.ref a1), .val (.int p2)] [.null])) := by
    intro ttx ktx
    refine p0 ttx ?_
    show Steps p.tables e below (s₁.setTop (mkF m 0 #[.val (.ref a1), .val (.int p2)] [])) _
    refine XS.aloadN X0.here hx rfl (hb hby d4_0) rfl rfl ?_
    show Steps p.tables e below (s₁.setTop (mkF m 1 #[.val (.ref a1), .val (.int p2)] [(.ref a1)])) _
    refine st1 _ ?_
    show Steps p.tables e below (T1.setTop (mkF m 4 #[.val (.ref a1), .val (.int p2)] [.null])) _
    refine XS.ifnonnullNo X1.here hx rfl (hb hby d4_4) rfl ?_
    show Steps p.tables e below (T1.setTop (mkF m 7 #[.val (.ref a1), .val (.int p2)] [])) _
    refine XS.aconstNull X1.here hx rfl (hb hby d4_7) ?_
    show Steps p.tables e below (T1.setTop (mkF m 8 #[.val (.ref a1), .val (.int p2)] [.null])) _
    refine XS.goto X1.here hx rfl (pc0 := 8) (pc' := 22) rfl (hb hby d4_8) (by decide) (by decide) ?_
    exact ktx
  obtain ⟨fs, hr, hrun, hended, hW, hsame⟩ := X1.leave (v := some .null) (fun h => by rw [Bd.returns] at h; cases h)
  refine ⟨_, _, go2 _ ?_, hrun, hended, _, _, rfl, ?_, ⟨_, rfl⟩, hW, hsame.mono (by decide) (by decide)⟩
  · exact retOut X1 hx Bd.returns rfl (Or.inr (Or.inr (Or.inr (Or.inr ⟨rfl, rfl, rfl⟩)))) (hb hby d4_22) hr
  · show QFN Z a1 p2 h0 n0 _ T1.heap _
    rw [e1]
    exact ⟨rfl, N0, rfl⟩
theorem d4_11 : decode prog_12_method_9_code 11 = .ok (.aload_n 0, 1) := by decide +kernel
theorem d4_12 : decode prog_12_method_9_code 12 = .ok (.getfield 50, 3) := by decide +kernel
theorem d4_15 : decode prog_12_method_9_code 15 = .ok (.aload_n 0, 1) := by decide +kernel
theorem d4_16 : decode prog_12_method_9_code 16 = .ok (.getfield 54, 3) := by decide +kernel
theorem d4_19 : decode prog_12_method_9_code 19 = .ok (.iload_n 1, 1) := by decide +kernel
theorem d4_20 : decode prog_12_method_9_code 20 = .ok (.iadd, 1) := by decide +kernel
theorem d4_21 : decode prog_12_method_9_code 21 = .ok (.aaload, 1) := by decide +kernel
theorem ef_F0 (m : MethodId) (x0 : Addr) (x1 : Int32) : entryFrame m #[(.ref x0), (.int x1)] 2 = mkF m 0 #[.val (.ref x0), .val (.int x1)] [] := by first | (simp [entryFrame, mkF, argsToLocals, Value.category]; done) | rfl
def QF0 (Z : State) (a1 : Addr) (p2 : Int32) (t : Addr) (f : Int32) (kc : ClassId) (vs : List Value) (h0 : Heap) (n0 : Nat) (v : Option Value) (h : Heap) (L : List Loc) : Prop := v = some .null ∧ Fr n0 L ∧ h = h0
set_option maxRecDepth 65536 in
set_option maxHeartbeats 40000000 in
theorem rmF0 (l : Launch) (Z : State) (a0 : Array Value) (hw : ∀ d ∈ tables_1, d.before a0 Z = true) (ws : List Jvm.Cond) (a1 : Addr) (p2 : Int32) (t : Addr) (f : Int32) (kc : ClassId) (vs : List Value) (h0 : Heap) (n0 : Nat) (Z0 : n0 ≤ h0.size) (F_firsts : Fld Z h0 a1 "com/example/wilt/wilt/core/ExpirySlots$Run" "firsts" "[Ljava/lang/Object;" (.ref t)) (F_from : Fld Z h0 a1 "com/example/wilt/wilt/core/ExpirySlots$Run" "from" "I" (.int f)) (V_t : Arv Z h0 t kc (.object "java/lang/Object") (8 : Int32) vs .null) (hj : ¬ (f + p2) < 0 ∧ (f + p2) < (8 : Int32)) (hv : vs.getD (f + p2).toNatClampNeg .null = .null) :
    MetFree l (⟨"com/example/wilt/wilt/core/ExpirySlots$Run", "first", "(I)Ljava/lang/Object;"⟩ : MethodName) (head1 (Jvm.Cond.code (⟨"com/example/wilt/wilt/core/ExpirySlots$Run", "first", "(I)Ljava/lang/Object;"⟩ : MethodName) prog_12_method_9_code 2 (some (.object "java/lang/Object")) :: ws) ({ frames := 0, cells := 0, slots := 0, locals := 0 } : Room)) (fun aax UU => aax = #[(.ref a1), (.int p2)] ∧ Z.Warmed39 UU.vm ∧ UU.heap = h0) (fun _ _ _ _ _ => True) (fun _ UU oux UU' => ∃ rvx Lrx, oux = .returned rvx ∧ QF0 Z a1 p2 t f kc vs h0 n0 rvx UU'.heap Lrx ∧ FrameEnd UU oux UU' Lrx ({ frames := 0, cells := 0, slots := 0, locals := 0 } : Room).cells ({ frames := 0, cells := 0, slots := 0, locals := 0 } : Room).slots) := by
  refine MetFree.of_bodySF (plainFor_of_name own_pn_com_example_wilt_wilt_core_ExpirySlots_Run) hisR ?_
  intro p e s m args below meth c s₁ Bd hml0 hP hK
  obtain ⟨rfl, hZ, hh⟩ := hP
  have hx := Bd.exec
  have hby := Bd.bytes
  have hml : c.maxLocals = 2 := hml0
  have hown : s.vm.findClass "com/example/wilt/wilt/core/ExpirySlots$Run" = some m.cls := findClass_of_methodNamed Bd.named
  have hnm := (name_of_methodNamed Bd.named Bd.method).1
  have X0 : Stand p l e ({ frames := 0, cells := 0, slots := 0, locals := 0 } : Room) s m #[(.ref a1), (.int p2)] below meth c s₁ [] 0 0 := Stand.of_body Bd
  have e0 : s₁.heap = h0 := by rw [← hh, Bd.state]; rfl
  have N0 := Fr.nil n0
  have p0 : own_go p e below (s₁.setTop (entryFrame m #[(.ref a1), (.int p2)] 2)) (s₁.setTop (mkF m 0 #[.val (.ref a1), .val (.int p2)] [])) := fun ttx ktx => castTop (ef_F0 m a1 p2) ktx
  obtain ⟨T1, X1, e1, st1⟩ := getF X0 hx hZ hown (host := "") (Or.inl (hw _ (List.mem_of_getElem? (i := 31) rfl))) Via.refl e0 F_firsts (g := (mkF m 1 #[.val (.ref a1), .val (.int p2)] [(.ref a1)])) rfl rfl (hb hby d4_1)
  obtain ⟨T2, X2, e2, st2⟩ := getF X1 hx hZ hown (host := "") (Or.inl (hw _ (List.mem_of_getElem? (i := 31) rfl))) Via.refl e1 F_firsts (g := (mkF m 12 #[.val (.ref a1), .val (.int p2)] [(.ref a1)])) rfl rfl (hb hby d4_12)
  obtain ⟨T3, X3, e3, st3⟩ := getF X2 hx hZ hown (host := "") (Or.inl (hw _ (List.mem_of_getElem? (i := 32) rfl))) Via.refl e2 F_from (g := (mkF m 16 #[.val (.ref a1), .val (.int p2)] [(.ref a1), (.ref t)])) rfl rfl (hb hby d4_16)
  obtain ⟨cl4, Ar4, q4, S4, M4, H4, G4⟩ := id V_t
  have hin4 : ¬ ((f + p2) < 0 ∨ cl4.slots.size ≤ ((f + p2)).toNatClampNeg) := inb_of S4 hj
  have hat4 := Has.at H4 hin4 hv
  have go5 : own_go p e below (s₁.setTop (entryFrame m #[(.ref a1), (.int p2)] 2)) (T3.setTop (mkF m 22 #[.val (.ref a1), .val (.int p2)] [.null])) := by
    intro ttx ktx
    refine p0 ttx ?_
    show Steps p.tables e below (s₁.setTop (mkF m 0 #[.val (.ref a1), .val (.int p2)] [])) _
    refine XS.aloadN X0.here hx rfl (hb hby d4_0) rfl rfl ?_
    show Steps p.tables e below (s₁.setTop (mkF m 1 #[.val (.ref a1), .val (.int p2)] [(.ref a1)])) _
    refine st1 _ ?_
    show Steps p.tables e below (T1.setTop (mkF m 4 #[.val (.ref a1), .val (.int p2)] [(.ref t)])) _
    refine XS.ifnonnullYes X1.here hx rfl (pc0 := 4) (pc' := 11) rfl (hb hby d4_4) rfl (by decide) (by decide) ?_
    show Steps p.tables e below (T1.setTop (mkF m 11 #[.val (.ref a1), .val (.int p2)] [])) _
    refine XS.aloadN X1.here hx rfl (hb hby d4_11) rfl rfl ?_
    show Steps p.tables e below (T1.setTop (mkF m 12 #[.val (.ref a1), .val (.int p2)] [(.ref a1)])) _
    refine st2 _ ?_
    show Steps p.tables e below (T2.setTop (mkF m 15 #[.val (.ref a1), .val (.int p2)] [(.ref t)])) _
    refine XS.aloadN X2.here hx rfl (hb hby d4_15) rfl rfl ?_
    show Steps p.tables e below (T2.setTop (mkF m 16 #[.val (.ref a1), .val (.int p2)] [(.ref a1), (.ref t)])) _
    refine st3 _ ?_
    show Steps p.tables e below (T3.setTop (mkF m 19 #[.val (.ref a1), .val (.int p2)] [(.int f), (.ref t)])) _
    refine XS.iloadN X3.here hx rfl (hb hby d4_19) rfl ?_
    show Steps p.tables e below (T3.setTop (mkF m 20 #[.val (.ref a1), .val (.int p2)] [(.int p2), (.int f), (.ref t)])) _
    refine XS.iadd X3.here hx rfl (hb hby d4_20) rfl ?_
    show Steps p.tables e below (T3.setTop (mkF m 21 #[.val (.ref a1), .val (.int p2)] [(.int (f + p2)), (.ref t)])) _
    refine X3.aaload hx (j := (f + p2)) (v := .null) (own_hp e3 Ar4.1) (State.isArrayOf_alike hZ.alike Ar4.2.1) rfl Ar4.2.2 hin4 hat4 (g := (mkF m 21 #[.val (.ref a1), .val (.int p2)] [(.int (f + p2)), (.ref t)])) rfl rfl (hb hby d4_21) _ ?_
    exact ktx
  obtain ⟨fs, hr, hrun, hended, hW, hsame⟩ := X3.leave (v := some .null) (fun h => by rw [Bd.returns] at h; cases h)
  refine ⟨_, _, go5 _ ?_, hrun, hended, _, _, rfl, ?_, ⟨_, rfl⟩, hW, hsame.mono (by decide) (by decide)⟩
  · exact retOut X3 hx Bd.returns rfl (Or.inr (Or.inr (Or.inr (Or.inr ⟨rfl, rfl, rfl⟩)))) (hb hby d4_22) hr
  · show QF0 Z a1 p2 t f kc vs h0 n0 _ T3.heap _
    rw [e3]
    exact ⟨rfl, N0, rfl⟩
theorem ef_F1 (m : MethodId) (x0 : Addr) (x1 : Int32) : entryFrame m #[(.ref x0), (.int x1)] 2 = mkF m 0 #[.val (.ref x0), .val (.int x1)] [] := by first | (simp [entryFrame, mkF, argsToLocals, Value.category]; done) | rfl
def QF1 (Z : State) (a1 : Addr) (p2 : Int32) (t : Addr) (f : Int32) (kc : ClassId) (vs : List Value) (bx : Addr) (h0 : Heap) (n0 : Nat) (v : Option Value) (h : Heap) (L : List Loc) : Prop := v = some (.ref bx) ∧ Fr n0 L ∧ h = h0
set_option maxRecDepth 65536 in
set_option maxHeartbeats 40000000 in
theorem rmF1 (l : Launch) (Z : State) (a0 : Array Value) (hw : ∀ d ∈ tables_1, d.before a0 Z = true) (ws : List Jvm.Cond) (a1 : Addr) (p2 : Int32) (t : Addr) (f : Int32) (kc : ClassId) (vs : List Value) (bx : Addr) (h0 : Heap) (n0 : Nat) (Z0 : n0 ≤ h0.size) (F_firsts : Fld Z h0 a1 "com/example/wilt/wilt/core/ExpirySlots$Run" "firsts" "[Ljava/lang/Object;" (.ref t)) (F_from : Fld Z h0 a1 "com/example/wilt/wilt/core/ExpirySlots$Run" "from" "I" (.int f)) (V_t : Arv Z h0 t kc (.object "java/lang/Object") (8 : Int32) vs .null) (hj : ¬ (f + p2) < 0 ∧ (f + p2) < (8 : Int32)) (hv : vs.getD (f + p2).toNatClampNeg .null = (.ref bx)) :
    MetFree l (⟨"com/example/wilt/wilt/core/ExpirySlots$Run", "first", "(I)Ljava/lang/Object;"⟩ : MethodName) (head1 (Jvm.Cond.code (⟨"com/example/wilt/wilt/core/ExpirySlots$Run", "first", "(I)Ljava/lang/Object;"⟩ : MethodName) prog_12_method_9_code 2 (some (.object "java/lang/Object")) :: ws) ({ frames := 0, cells := 0, slots := 0, locals := 0 } : Room)) (fun aax UU => aax = #[(.ref a1), (.int p2)] ∧ Z.Warmed39 UU.vm ∧ UU.heap = h0) (fun _ _ _ _ _ => True) (fun _ UU oux UU' => ∃ rvx Lrx, oux = .returned rvx ∧ QF1 Z a1 p2 t f kc vs bx h0 n0 rvx UU'.heap Lrx ∧ FrameEnd UU oux UU' Lrx ({ frames := 0, cells := 0, slots := 0, locals := 0 } : Room).cells ({ frames := 0, cells := 0, slots := 0, locals := 0 } : Room).slots) := by
  refine MetFree.of_bodySF (plainFor_of_name own_pn_com_example_wilt_wilt_core_ExpirySlots_Run) hisR ?_
  intro p e s m args below meth c s₁ Bd hml0 hP hK
  obtain ⟨rfl, hZ, hh⟩ := hP
  have hx := Bd.exec
  have hby := Bd.bytes
  have hml : c.maxLocals = 2 := hml0
  have hown : s.vm.findClass "com/example/wilt/wilt/core/ExpirySlots$Run" = some m.cls := findClass_of_methodNamed Bd.named
  have hnm := (name_of_methodNamed Bd.named Bd.method).1
  have X0 : Stand p l e ({ frames := 0, cells := 0, slots := 0, locals := 0 } : Room) s m #[(.ref a1), (.int p2)] below meth c s₁ [] 0 0 := Stand.of_body Bd
  have e0 : s₁.heap = h0 := by rw [← hh, Bd.state]; rfl
  have N0 := Fr.nil n0
  have p0 : own_go p e below (s₁.setTop (entryFrame m #[(.ref a1), (.int p2)] 2)) (s₁.setTop (mkF m 0 #[.val (.ref a1), .val (.int p2)] [])) := fun ttx ktx => castTop (ef_F1 m a1 p2) ktx
  obtain ⟨T1, X1, e1, st1⟩ := getF X0 hx hZ hown (host := "") (Or.inl (hw _ (List.mem_of_getElem? (i := 31) rfl))) Via.refl e0 F_firsts (g := (mkF m 1 #[.val (.ref a1), .val (.int p2)] [(.ref a1)])) rfl rfl (hb hby d4_1)
  obtain ⟨T2, X2, e2, st2⟩ := getF X1 hx hZ hown (host := "") (Or.inl (hw _ (List.mem_of_getElem? (i := 31) rfl))) Via.refl e1 F_firsts (g := (mkF m 12 #[.val (.ref a1), .val (.int p2)] [(.ref a1)])) rfl rfl (hb hby d4_12)
  obtain ⟨T3, X3, e3, st3⟩ := getF X2 hx hZ hown (host := "") (Or.inl (hw _ (List.mem_of_getElem? (i := 32) rfl))) Via.refl e2 F_from (g := (mkF m 16 #[.val (.ref a1), .val (.int p2)] [(.ref a1), (.ref t)])) rfl rfl (hb hby d4_16)
  obtain ⟨cl4, Ar4, q4, S4, M4, H4, G4⟩ := id V_t
  have hin4 : ¬ ((f + p2) < 0 ∨ cl4.slots.size ≤ ((f + p2)).toNatClampNeg) := inb_of S4 hj
  have hat4 := Has.at H4 hin4 hv
  have go5 : own_go p e below (s₁.setTop (entryFrame m #[(.ref a1), (.int p2)] 2)) (T3.setTop (mkF m 22 #[.val (.ref a1), .val (.int p2)] [(.ref bx)])) := by
    intro ttx ktx
    refine p0 ttx ?_
    show Steps p.tables e below (s₁.setTop (mkF m 0 #[.val (.ref a1), .val (.int p2)] [])) _
    refine XS.aloadN X0.here hx rfl (hb hby d4_0) rfl rfl ?_
    show Steps p.tables e below (s₁.setTop (mkF m 1 #[.val (.ref a1), .val (.int p2)] [(.ref a1)])) _
    refine st1 _ ?_
    show Steps p.tables e below (T1.setTop (mkF m 4 #[.val (.ref a1), .val (.int p2)] [(.ref t)])) _
    refine XS.ifnonnullYes X1.here hx rfl (pc0 := 4) (pc' := 11) rfl (hb hby d4_4) rfl (by decide) (by decide) ?_
    show Steps p.tables e below (T1.setTop (mkF m 11 #[.val (.ref a1), .val (.int p2)] [])) _
    refine XS.aloadN X1.here hx rfl (hb hby d4_11) rfl rfl ?_
    show Steps p.tables e below (T1.setTop (mkF m 12 #[.val (.ref a1), .val (.int p2)] [(.ref a1)])) _
    refine st2 _ ?_
    show Steps p.tables e below (T2.setTop (mkF m 15 #[.val (.ref a1), .val (.int p2)] [(.ref t)])) _
    refine XS.aloadN X2.here hx rfl (hb hby d4_15) rfl rfl ?_
    show Steps p.tables e below (T2.setTop (mkF m 16 #[.val (.ref a1), .val (.int p2)] [(.ref a1), (.ref t)])) _
    refine st3 _ ?_
    show Steps p.tables e below (T3.setTop (mkF m 19 #[.val (.ref a1), .val (.int p2)] [(.int f), (.ref t)])) _
    refine XS.iloadN X3.here hx rfl (hb hby d4_19) rfl ?_
    show Steps p.tables e below (T3.setTop (mkF m 20 #[.val (.ref a1), .val (.int p2)] [(.int p2), (.int f), (.ref t)])) _
    refine XS.iadd X3.here hx rfl (hb hby d4_20) rfl ?_
    show Steps p.tables e below (T3.setTop (mkF m 21 #[.val (.ref a1), .val (.int p2)] [(.int (f + p2)), (.ref t)])) _
    refine X3.aaload hx (j := (f + p2)) (v := (.ref bx)) (own_hp e3 Ar4.1) (State.isArrayOf_alike hZ.alike Ar4.2.1) rfl Ar4.2.2 hin4 hat4 (g := (mkF m 21 #[.val (.ref a1), .val (.int p2)] [(.int (f + p2)), (.ref t)])) rfl rfl (hb hby d4_21) _ ?_
    exact ktx
  obtain ⟨fs, hr, hrun, hended, hW, hsame⟩ := X3.leave (v := some (.ref bx)) (fun h => by rw [Bd.returns] at h; cases h)
  refine ⟨_, _, go5 _ ?_, hrun, hended, _, _, rfl, ?_, ⟨_, rfl⟩, hW, hsame.mono (by decide) (by decide)⟩
  · exact retOut X3 hx Bd.returns rfl (Or.inr (Or.inr (Or.inr (Or.inr ⟨rfl, rfl, rfl⟩)))) (hb hby d4_22) hr
  · show QF1 Z a1 p2 t f kc vs bx h0 n0 _ T3.heap _
    rw [e3]
    exact ⟨rfl, N0, rfl⟩
theorem own_eight (j : Int32) (h1 : ¬ j < 0) (h2 : j < 8) : j = 0 ∨ j = 1 ∨ j = 2 ∨ j = 3 ∨ j = 4 ∨ j = 5 ∨ j = 6 ∨ j = 7 := by
  rw [Int32.lt_iff_toInt_lt] at h1 h2
  simp only [← Int32.toInt_inj]
  have e0 : (0 : Int32).toInt = 0 := rfl
  have e1 : (1 : Int32).toInt = 1 := rfl
  have e2 : (2 : Int32).toInt = 2 := rfl
  have e3 : (3 : Int32).toInt = 3 := rfl
  have e4 : (4 : Int32).toInt = 4 := rfl
  have e5 : (5 : Int32).toInt = 5 := rfl
  have e6 : (6 : Int32).toInt = 6 := rfl
  have e7 : (7 : Int32).toInt = 7 := rfl
  have e8 : (8 : Int32).toInt = 8 := rfl
  omega
theorem own_sz (y : Int32) : (1 : Int32) + (y &&& 3) ≠ 0 ∧ 0 < ((1 : Int32) + (y &&& 3)).toInt ∧ ((1 : Int32) + (y &&& 3)).toInt ≤ 4 := by
  have a := c_and y 3 (by decide)
  have b := c_iadd 1 (y &&& 3)
  have r := rng32 ((1 : Int32) + (y &&& 3))
  have e1 : (1 : Int32).toInt = 1 := rfl
  have e3 : (3 : Int32).toInt = 3 := rfl
  have q : 0 < ((1 : Int32) + (y &&& 3)).toInt ∧ ((1 : Int32) + (y &&& 3)).toInt ≤ 4 := by omega
  exact ⟨fun e => by rw [e] at q; exact absurd q.1 (by decide), q⟩
theorem own_bd (x y z : Int32) : ¬ ((x &&& 3) + (z &&& 2147483647) % ((1 : Int32) + (y &&& 3)) < 0) ∧ (x &&& 3) + (z &&& 2147483647) % ((1 : Int32) + (y &&& 3)) < 8 := by
  have a := c_and x 3 (by decide)
  have b := c_and z 2147483647 (by decide)
  obtain ⟨-, s1, s2⟩ := own_sz y
  have d := (c_iremV (z &&& 2147483647) ((1 : Int32) + (y &&& 3))).1 b.1 s1
  generalize (z &&& 2147483647) % ((1 : Int32) + (y &&& 3)) = r at d
  have f := c_iadd (x &&& 3) r
  have g := rng32 ((x &&& 3) + r)
  have e0 : (0 : Int32).toInt = 0 := rfl
  have e3 : (3 : Int32).toInt = 3 := rfl
  have e8 : (8 : Int32).toInt = 8 := rfl
  rw [Int32.lt_iff_toInt_lt, Int32.lt_iff_toInt_lt]
  omega
theorem own_7 (x : Int32) : ¬ (x &&& 7) < 0 ∧ (x &&& 7) < 8 := by
  have a := c_and x 7 (by decide)
  have e0 : (0 : Int32).toInt = 0 := rfl
  have e7 : (7 : Int32).toInt = 7 := rfl
  have e8 : (8 : Int32).toInt = 8 := rfl
  rw [Int32.lt_iff_toInt_lt, Int32.lt_iff_toInt_lt]
  omega
theorem own_cl {j : Int32} (h1 : ¬ j < 0) (h2 : j < 8) : j.toNatClampNeg < 8 := by
  rcases own_eight j h1 h2 with rfl | rfl | rfl | rfl | rfl | rfl | rfl | rfl <;> decide
theorem own_inj {i j : Int32} (h1 : ¬ i < 0) (h2 : ¬ j < 0) (h : i.toNatClampNeg = j.toNatClampNeg) : i = j := by
  rw [Int32.lt_iff_toInt_lt] at h1 h2
  have e0 : (0 : Int32).toInt = 0 := rfl
  have h' : i.toInt.toNat = j.toInt.toNat := h
  exact Int32.toInt_inj.mp (by omega)
theorem own_hit (l : List Value) (i : Nat) (v d : Value) (h : i < l.length) : (l.set i v).getD i d = v := by simp [List.getD, h]
theorem own_miss (l : List Value) (i j : Nat) (v d : Value) (h : i ≠ j) : (l.set i v).getD j d = l.getD j d := by simp [List.getD, List.getElem?_set_ne h]
theorem own_pd2 : parseMethodDescriptor "(I)Ljava/lang/Integer;" = some ⟨[.int], some (.object "java/lang/Integer")⟩ := by decide +kernel
theorem own_pd3 : parseMethodDescriptor "(I)Ljava/lang/Object;" = some ⟨[.int], some (.object "java/lang/Object")⟩ := by decide +kernel
theorem own_pd4 : parseMethodDescriptor "()I" = some ⟨[], some .int⟩ := by decide +kernel
theorem own_pn_com_example_wilt_wilt_core_RunFirstPinLaw : plainName "com/example/wilt/wilt/core/RunFirstPinLaw" = true := by first | (simp [plainName, overriddenIn]; done) | decide +kernel
theorem ef_0 (m : MethodId) (x0 : Int32) (x1 : Int32) (x2 : Int32) (x3 : Int32) (x4 : Int32) : entryFrame m #[(.int x0), (.int x1), (.int x2), (.int x3), (.int x4)] maxLocals = mkF m 0 #[.val (.int x0), .val (.int x1), .val (.int x2), .val (.int x3), .val (.int x4), .unset, .unset, .unset, .unset, .unset, .unset, .unset, .unset, .unset, .unset] [] := by first | (simp [entryFrame, mkF, argsToLocals, Value.category, maxLocals]; done) | rfl
def Q0 (Z : State) (p1 : Int32) (p2 : Int32) (p3 : Int32) (p4 : Int32) (p5 : Int32) (h0 : Heap) (n0 : Nat) (v : Option Value) (h : Heap) (L : List Loc) : Prop := v = some (.int 1) ∧ Fr n0 L
set_option maxRecDepth 65536 in
set_option maxHeartbeats 40000000 in
theorem rm0 (l : Launch) (Z : State) (a0 : Array Value) (hw : ∀ d ∈ tables_1, d.before a0 Z = true) (ws : List Jvm.Cond) (p1 : Int32) (p2 : Int32) (p3 : Int32) (p4 : Int32) (p5 : Int32) (h0 : Heap) (n0 : Nat) (Z0 : n0 ≤ h0.size) (O0 : Old Z n0 h0) (hcache : own_cache Z) :
    MetFree l x (head1 (Jvm.Cond.code x code maxLocals ret :: ws) room_1) (fun aax UU => aax = #[(.int p1), (.int p2), (.int p3), (.int p4), (.int p5)] ∧ Z.Warmed39 UU.vm ∧ UU.heap = h0) (fun _ _ _ _ _ => True) (fun _ UU oux UU' => ∃ rvx Lrx, oux = .returned rvx ∧ Q0 Z p1 p2 p3 p4 p5 h0 n0 rvx UU'.heap Lrx ∧ FrameEnd UU oux UU' Lrx 32 128) := by
  refine MetFree.of_bodySF (plainFor_of_name own_pn_com_example_wilt_wilt_core_RunFirstPinLaw) hisR ?_
  intro p e s m args below meth c s₁ Bd hml0 hP hK
  obtain ⟨rfl, hZ, hh⟩ := hP
  have hx := Bd.exec
  have hby := Bd.bytes
  have hml : c.maxLocals = 15 := hml0
  have hown : s.vm.findClass "com/example/wilt/wilt/core/RunFirstPinLaw" = some m.cls := findClass_of_methodNamed Bd.named
  have hnm := (name_of_methodNamed Bd.named Bd.method).1
  have X0 : Stand p l e room_1 s m #[(.int p1), (.int p2), (.int p3), (.int p4), (.int p5)] below meth c s₁ [] 0 0 := Stand.of_body Bd
  have e0 : s₁.heap = h0 := by rw [← hh, Bd.state]; rfl
  have N0 := Fr.nil n0
  have p0 : own_go p e below (s₁.setTop (entryFrame m #[(.int p1), (.int p2), (.int p3), (.int p4), (.int p5)] maxLocals)) (s₁.setTop (mkF m 0 #[.val (.int p1), .val (.int p2), .val (.int p3), .val (.int p4), .val (.int p5), .unset, .unset, .unset, .unset, .unset, .unset, .unset, .unset, .unset, .unset] [])) := fun ttx ktx => castTop (ef_0 m p1 p2 p3 p4 p5) ktx
  have go1 : own_go p e below (s₁.setTop (entryFrame m #[(.int p1), (.int p2), (.int p3), (.int p4), (.int p5)] maxLocals)) (s₁.setTop (mkF m 3 #[.val (.int p1), .val (.int p2), .val (.int p3), .val (.int p4), .val (.int p5), .unset, .unset, .unset, .unset, .unset, .unset, .unset, .unset, .unset, .unset] [(.int (p1 &&& (1 : Int32)))])) := by
    intro ttx ktx
    refine p0 ttx ?_
    show Steps p.tables e below (s₁.setTop (mkF m 0 #[.val (.int p1), .val (.int p2), .val (.int p3), .val (.int p4), .val (.int p5), .unset, .unset, .unset, .unset, .unset, .unset, .unset, .unset, .unset, .unset] [])) _
    refine XS.iloadN X0.here hx rfl (hb hby at_0) rfl ?_
    show Steps p.tables e below (s₁.setTop (mkF m 1 #[.val (.int p1), .val (.int p2), .val (.int p3), .val (.int p4), .val (.int p5), .unset, .unset, .unset, .unset, .unset, .unset, .unset, .unset, .unset, .unset] [(.int p1)])) _
    refine XS.iconst X0.here hx rfl (hb hby at_1) ?_
    show Steps p.tables e below (s₁.setTop (mkF m 2 #[.val (.int p1), .val (.int p2), .val (.int p3), .val (.int p4), .val (.int p5), .unset, .unset, .unset, .unset, .unset, .unset, .unset, .unset, .unset, .unset] [(.int (1 : Int32)), (.int p1)])) _
    refine XS.iand X0.here hx rfl (hb hby at_2) rfl ?_
    exact ktx
  obtain ⟨v5, hv_v5, go6⟩ : ∃ (v5 : Int32), v5 = (if (p1 &&& (1 : Int32)) = (0 : Int32) then (0 : Int32) else (1 : Int32)) ∧ own_go p e below (s₁.setTop (entryFrame m #[(.int p1), (.int p2), (.int p3), (.int p4), (.int p5)] maxLocals)) (s₁.setTop (mkF m 11 #[.val (.int p1), .val (.int p2), .val (.int p3), .val (.int p4), .val (.int p5), .unset, .unset, .unset, .unset, .unset, .unset, .unset, .unset, .unset, .unset] [(.int v5)])) := by
    by_cases hc2_3 : (p1 &&& (1 : Int32)) = (0 : Int32)
    · have go3 : own_go p e below (s₁.setTop (entryFrame m #[(.int p1), (.int p2), (.int p3), (.int p4), (.int p5)] maxLocals)) (s₁.setTop (mkF m 11 #[.val (.int p1), .val (.int p2), .val (.int p3), .val (.int p4), .val (.int p5), .unset, .unset, .unset, .unset, .unset, .unset, .unset, .unset, .unset, .unset] [(.int (0 : Int32))])) := by
        intro ttx ktx
        refine go1 ttx ?_
        show Steps p.tables e below (s₁.setTop (mkF m 3 #[.val (.int p1), .val (.int p2), .val (.int p3), .val (.int p4), .val (.int p5), .unset, .unset, .unset, .unset, .unset, .unset, .unset, .unset, .unset, .unset] [(.int (p1 &&& (1 : Int32)))])) _
        refine XS.ifYes X0.here hx rfl (pc0 := 3) (pc' := 10) rfl (hb hby at_3) rfl ((if0 _ _).trans (teq hc2_3).1) (by decide) (by decide) ?_
        show Steps p.tables e below (s₁.setTop (mkF m 10 #[.val (.int p1), .val (.int p2), .val (.int p3), .val (.int p4), .val (.int p5), .unset, .unset, .unset, .unset, .unset, .unset, .unset, .unset, .unset, .unset] [])) _
        refine XS.iconst X0.here hx rfl (hb hby at_10) ?_
        exact ktx
      exact ⟨_, (if_pos hc2_3).symm, go3⟩
    · have go4 : own_go p e below (s₁.setTop (entryFrame m #[(.int p1), (.int p2), (.int p3), (.int p4), (.int p5)] maxLocals)) (s₁.setTop (mkF m 11 #[.val (.int p1), .val (.int p2), .val (.int p3), .val (.int p4), .val (.int p5), .unset, .unset, .unset, .unset, .unset, .unset, .unset, .unset, .unset, .unset] [(.int (1 : Int32))])) := by
        intro ttx ktx
        refine go1 ttx ?_
        show Steps p.tables e below (s₁.setTop (mkF m 3 #[.val (.int p1), .val (.int p2), .val (.int p3), .val (.int p4), .val (.int p5), .unset, .unset, .unset, .unset, .unset, .unset, .unset, .unset, .unset, .unset] [(.int (p1 &&& (1 : Int32)))])) _
        refine XS.ifNo X0.here hx rfl (hb hby at_3) rfl ((if0 _ _).trans (feq hc2_3).1) ?_
        show Steps p.tables e below (s₁.setTop (mkF m 6 #[.val (.int p1), .val (.int p2), .val (.int p3), .val (.int p4), .val (.int p5), .unset, .unset, .unset, .unset, .unset, .unset, .unset, .unset, .unset, .unset] [])) _
        refine XS.iconst X0.here hx rfl (hb hby at_6) ?_
        show Steps p.tables e below (s₁.setTop (mkF m 7 #[.val (.int p1), .val (.int p2), .val (.int p3), .val (.int p4), .val (.int p5), .unset, .unset, .unset, .unset, .unset, .unset, .unset, .unset, .unset, .unset] [(.int (1 : Int32))])) _
        refine XS.goto X0.here hx rfl (pc0 := 7) (pc' := 11) rfl (hb hby at_7) (by decide) (by decide) ?_
        exact ktx
      exact ⟨_, (if_neg hc2_3).symm, go4⟩
  have go7 : own_go p e below (s₁.setTop (entryFrame m #[(.int p1), (.int p2), (.int p3), (.int p4), (.int p5)] maxLocals)) (s₁.setTop (mkF m 16 #[.val (.int p1), .val (.int p2), .val (.int p3), .val (.int p4), .val (.int p5), .val (.int v5), .unset, .unset, .unset, .unset, .unset, .unset, .unset, .unset, .unset] [(.int (p1 &&& (2 : Int32)))])) := by
    intro ttx ktx
    refine go6 ttx ?_
    show Steps p.tables e below (s₁.setTop (mkF m 11 #[.val (.int p1), .val (.int p2), .val (.int p3), .val (.int p4), .val (.int p5), .unset, .unset, .unset, .unset, .unset, .unset, .unset, .unset, .unset, .unset] [(.int v5)])) _
    refine XS.istore X0.here hx rfl (hb hby at_11) rfl (l' := #[.val (.int p1), .val (.int p2), .val (.int p3), .val (.int p4), .val (.int p5), .val (.int v5), .unset, .unset, .unset, .unset, .unset, .unset, .unset, .unset, .unset]) rfl ?_
    show Steps p.tables e below (s₁.setTop (mkF m 13 #[.val (.int p1), .val (.int p2), .val (.int p3), .val (.int p4), .val (.int p5), .val (.int v5), .unset, .unset, .unset, .unset, .unset, .unset, .unset, .unset, .unset] [])) _
    refine XS.iloadN X0.here hx rfl (hb hby at_13) rfl ?_
    show Steps p.tables e below (s₁.setTop (mkF m 14 #[.val (.int p1), .val (.int p2), .val (.int p3), .val (.int p4), .val (.int p5), .val (.int v5), .unset, .unset, .unset, .unset, .unset, .unset, .unset, .unset, .unset] [(.int p1)])) _
    refine XS.iconst X0.here hx rfl (hb hby at_14) ?_
    show Steps p.tables e below (s₁.setTop (mkF m 15 #[.val (.int p1), .val (.int p2), .val (.int p3), .val (.int p4), .val (.int p5), .val (.int v5), .unset, .unset, .unset, .unset, .unset, .unset, .unset, .unset, .unset] [(.int (2 : Int32)), (.int p1)])) _
    refine XS.iand X0.here hx rfl (hb hby at_15) rfl ?_
    exact ktx
  obtain ⟨v11, hv_v11, go12⟩ : ∃ (v11 : Int32), v11 = (if (p1 &&& (2 : Int32)) = (0 : Int32) then (0 : Int32) else (1 : Int32)) ∧ own_go p e below (s₁.setTop (entryFrame m #[(.int p1), (.int p2), (.int p3), (.int p4), (.int p5)] maxLocals)) (s₁.setTop (mkF m 24 #[.val (.int p1), .val (.int p2), .val (.int p3), .val (.int p4), .val (.int p5), .val (.int v5), .unset, .unset, .unset, .unset, .unset, .unset, .unset, .unset, .unset] [(.int v11)])) := by
    by_cases hc8_16 : (p1 &&& (2 : Int32)) = (0 : Int32)
    · have go9 : own_go p e below (s₁.setTop (entryFrame m #[(.int p1), (.int p2), (.int p3), (.int p4), (.int p5)] maxLocals)) (s₁.setTop (mkF m 24 #[.val (.int p1), .val (.int p2), .val (.int p3), .val (.int p4), .val (.int p5), .val (.int v5), .unset, .unset, .unset, .unset, .unset, .unset, .unset, .unset, .unset] [(.int (0 : Int32))])) := by
        intro ttx ktx
        refine go7 ttx ?_
        show Steps p.tables e below (s₁.setTop (mkF m 16 #[.val (.int p1), .val (.int p2), .val (.int p3), .val (.int p4), .val (.int p5), .val (.int v5), .unset, .unset, .unset, .unset, .unset, .unset, .unset, .unset, .unset] [(.int (p1 &&& (2 : Int32)))])) _
        refine XS.ifYes X0.here hx rfl (pc0 := 16) (pc' := 23) rfl (hb hby at_16) rfl ((if0 _ _).trans (teq hc8_16).1) (by decide) (by decide) ?_
        show Steps p.tables e below (s₁.setTop (mkF m 23 #[.val (.int p1), .val (.int p2), .val (.int p3), .val (.int p4), .val (.int p5), .val (.int v5), .unset, .unset, .unset, .unset, .unset, .unset, .unset, .unset, .unset] [])) _
        refine XS.iconst X0.here hx rfl (hb hby at_23) ?_
        exact ktx
      exact ⟨_, (if_pos hc8_16).symm, go9⟩
    · have go10 : own_go p e below (s₁.setTop (entryFrame m #[(.int p1), (.int p2), (.int p3), (.int p4), (.int p5)] maxLocals)) (s₁.setTop (mkF m 24 #[.val (.int p1), .val (.int p2), .val (.int p3), .val (.int p4), .val (.int p5), .val (.int v5), .unset, .unset, .unset, .unset, .unset, .unset, .unset, .unset, .unset] [(.int (1 : Int32))])) := by
        intro ttx ktx
        refine go7 ttx ?_
        show Steps p.tables e below (s₁.setTop (mkF m 16 #[.val (.int p1), .val (.int p2), .val (.int p3), .val (.int p4), .val (.int p5), .val (.int v5), .unset, .unset, .unset, .unset, .unset, .unset, .unset, .unset, .unset] [(.int (p1 &&& (2 : Int32)))])) _
        refine XS.ifNo X0.here hx rfl (hb hby at_16) rfl ((if0 _ _).trans (feq hc8_16).1) ?_
        show Steps p.tables e below (s₁.setTop (mkF m 19 #[.val (.int p1), .val (.int p2), .val (.int p3), .val (.int p4), .val (.int p5), .val (.int v5), .unset, .unset, .unset, .unset, .unset, .unset, .unset, .unset, .unset] [])) _
        refine XS.iconst X0.here hx rfl (hb hby at_19) ?_
        show Steps p.tables e below (s₁.setTop (mkF m 20 #[.val (.int p1), .val (.int p2), .val (.int p3), .val (.int p4), .val (.int p5), .val (.int v5), .unset, .unset, .unset, .unset, .unset, .unset, .unset, .unset, .unset] [(.int (1 : Int32))])) _
        refine XS.goto X0.here hx rfl (pc0 := 20) (pc' := 24) rfl (hb hby at_20) (by decide) (by decide) ?_
        exact ktx
      exact ⟨_, (if_neg hc8_16).symm, go10⟩
  obtain ⟨v13, hv_v13⟩ : ∃ z : Int32, z = (((p1.toUInt32 >>> ((2 : Int32) &&& 31).toUInt32).toInt32) &&& (7 : Int32)) := ⟨_, rfl⟩
  obtain ⟨T14, h14, k14, X14, e14, E14, A14, O14r, st14⟩ := newR X0 hx hZ hown (hw _ (List.mem_of_getElem? (i := 0) rfl)) (hw _ (List.mem_of_getElem? (i := 1) rfl)) e0 (g := (mkF m 36 #[.val (.int p1), .val (.int p2), .val (.int p3), .val (.int p4), .val (.int p5), .val (.int v5), .val (.int v11), .val (.int v13), .unset, .unset, .unset, .unset, .unset, .unset, .unset] [(.int (8 : Int32))])) rfl (hb hby at_36) rfl (by decide) (cap := 8) (by decide) (by decide) (by decide) (by decide)
  obtain ⟨b14, g14⟩ : ∃ z, z = h0.size := ⟨_, rfl⟩
  rw [← g14] at A14 st14
  have g_b14 : n0 ≤ b14 := Nat.le_trans Z0 (Nat.le_of_eq g14.symm)
  have Z14 : n0 ≤ h14.size := Nat.le_trans Z0 E14.1
  have O14 := O0.ext E14
  have V14 : Arv Z h14 b14 k14 (.object "java/lang/Object") (8 : Int32) [.null, .null, .null, .null, .null, .null, .null, .null] .null := (Arv.new A14 (by decide)).pad (pad_rep [] .null 8)
  obtain ⟨_, _, ⟨T15, L15, k15, n15⟩, -, X15, ⟨Lc15, hQ15, l15, y15, z15⟩, st15⟩ := Jvm.LawKit.callS X14 hx (y := (⟨"java/lang/Integer", "valueOf", "(I)Ljava/lang/Integer;"⟩ : MethodName)) hown (mvT hZ (hw _ (List.mem_of_getElem? (i := 2) rfl))) (mvT hZ (hw _ (List.mem_of_getElem? (i := 3) rfl))) (mvT hZ (hw _ (List.mem_of_getElem? (i := 4) rfl))) (mvT hZ (hw _ (List.mem_of_getElem? (i := 5) rfl))) (by decide) (backOf (W := 2) (rmVO l Z a0 hw [] p2  h14 n0 Z14 O14 hcache) hZ (hw _ (List.mem_of_getElem? (i := 5) rfl)) (hw _ (List.mem_of_getElem? (i := 4) rfl)) (by decide) (by decide)) (g := (mkF m 45 #[.val (.int p1), .val (.int p2), .val (.int p3), .val (.int p4), .val (.int p5), .val (.int v5), .val (.int v11), .val (.int v13), .val (.ref b14), .unset, .unset, .unset, .unset, .unset, .unset] [(.int p2), (.int (0 : Int32)), (.ref b14)])) rfl (by rw [hml]; rfl) (argsL := [(.int p2)]) (rest := [(.int (0 : Int32)), (.ref b14)]) (lenOf own_pd2 rfl) rfl (by show 2 * 0 + _ ≤ _; exact Nat.le_of_eq rfl) (hb hby at_45) (fun _ _ => ⟨rfl, e14, (by decide : 1 + 1 ≤ _), (by decide : 8 + 1 ≤ _)⟩)
  dsimp only [Pt.U, Pt.locs, Pt.cells, Pt.slots] at X15 l15 y15 z15 st15 hQ15
  rw [l15, y15, z15] at X15
  obtain ⟨b15, rfl, Nq15, Kq15, Eq15, Fq15, Dq15⟩ := hQ15
  have N15 := Fr.app N0 Nq15
  have ne16 : b15 ≠ b14 := Dq15 b14 g_b14 V14.lt
  have Z15 : n0 ≤ T15.heap.size := Nat.le_trans Z14 Kq15.1
  have O15 := O14.keep Kq15 all0
  have go17 : own_go p e below (s₁.setTop (entryFrame m #[(.int p1), (.int p2), (.int p3), (.int p4), (.int p5)] maxLocals)) (T15.setTop (mkF m 48 #[.val (.int p1), .val (.int p2), .val (.int p3), .val (.int p4), .val (.int p5), .val (.int v5), .val (.int v11), .val (.int v13), .val (.ref b14), .unset, .unset, .unset, .unset, .unset, .unset] [(.ref b15), (.int (0 : Int32)), (.ref b14)])) := by
    intro ttx ktx
    refine go12 ttx ?_
    show Steps p.tables e below (s₁.setTop (mkF m 24 #[.val (.int p1), .val (.int p2), .val (.int p3), .val (.int p4), .val (.int p5), .val (.int v5), .unset, .unset, .unset, .unset, .unset, .unset, .unset, .unset, .unset] [(.int v11)])) _
    refine XS.istore X0.here hx rfl (hb hby at_24) rfl (l' := #[.val (.int p1), .val (.int p2), .val (.int p3), .val (.int p4), .val (.int p5), .val (.int v5), .val (.int v11), .unset, .unset, .unset, .unset, .unset, .unset, .unset, .unset]) rfl ?_
    show Steps p.tables e below (s₁.setTop (mkF m 26 #[.val (.int p1), .val (.int p2), .val (.int p3), .val (.int p4), .val (.int p5), .val (.int v5), .val (.int v11), .unset, .unset, .unset, .unset, .unset, .unset, .unset, .unset] [])) _
    refine XS.iloadN X0.here hx rfl (hb hby at_26) rfl ?_
    show Steps p.tables e below (s₁.setTop (mkF m 27 #[.val (.int p1), .val (.int p2), .val (.int p3), .val (.int p4), .val (.int p5), .val (.int v5), .val (.int v11), .unset, .unset, .unset, .unset, .unset, .unset, .unset, .unset] [(.int p1)])) _
    refine XS.iconst X0.here hx rfl (hb hby at_27) ?_
    show Steps p.tables e below (s₁.setTop (mkF m 28 #[.val (.int p1), .val (.int p2), .val (.int p3), .val (.int p4), .val (.int p5), .val (.int v5), .val (.int v11), .unset, .unset, .unset, .unset, .unset, .unset, .unset, .unset] [(.int (2 : Int32)), (.int p1)])) _
    refine XS.iushr X0.here hx rfl (hb hby at_28) rfl ?_
    show Steps p.tables e below (s₁.setTop (mkF m 29 #[.val (.int p1), .val (.int p2), .val (.int p3), .val (.int p4), .val (.int p5), .val (.int v5), .val (.int v11), .unset, .unset, .unset, .unset, .unset, .unset, .unset, .unset] [(.int ((p1.toUInt32 >>> ((2 : Int32) &&& 31).toUInt32).toInt32))])) _
    refine XS.bipush X0.here hx rfl (hb hby at_29) ?_
    show Steps p.tables e below (s₁.setTop (mkF m 31 #[.val (.int p1), .val (.int p2), .val (.int p3), .val (.int p4), .val (.int p5), .val (.int v5), .val (.int v11), .unset, .unset, .unset, .unset, .unset, .unset, .unset, .unset] [(.int (7 : Int32)), (.int ((p1.toUInt32 >>> ((2 : Int32) &&& 31).toUInt32).toInt32))])) _
    refine XS.iand X0.here hx rfl (hb hby at_31) rfl ?_
    show Steps p.tables e below (s₁.setTop (mkF m 32 #[.val (.int p1), .val (.int p2), .val (.int p3), .val (.int p4), .val (.int p5), .val (.int v5), .val (.int v11), .unset, .unset, .unset, .unset, .unset, .unset, .unset, .unset] [(.int (((p1.toUInt32 >>> ((2 : Int32) &&& 31).toUInt32).toInt32) &&& (7 : Int32)))])) _
    rw [← hv_v13]
    show Steps p.tables e below (s₁.setTop (mkF m 32 #[.val (.int p1), .val (.int p2), .val (.int p3), .val (.int p4), .val (.int p5), .val (.int v5), .val (.int v11), .unset, .unset, .unset, .unset, .unset, .unset, .unset, .unset] [(.int v13)])) _
    refine XS.istore X0.here hx rfl (hb hby at_32) rfl (l' := #[.val (.int p1), .val (.int p2), .val (.int p3), .val (.int p4), .val (.int p5), .val (.int v5), .val (.int v11), .val (.int v13), .unset, .unset, .unset, .unset, .unset, .unset, .unset]) rfl ?_
    show Steps p.tables e below (s₁.setTop (mkF m 34 #[.val (.int p1), .val (.int p2), .val (.int p3), .val (.int p4), .val (.int p5), .val (.int v5), .val (.int v11), .val (.int v13), .unset, .unset, .unset, .unset, .unset, .unset, .unset] [])) _
    refine XS.bipush X0.here hx rfl (hb hby at_34) ?_
    show Steps p.tables e below (s₁.setTop (mkF m 36 #[.val (.int p1), .val (.int p2), .val (.int p3), .val (.int p4), .val (.int p5), .val (.int v5), .val (.int v11), .val (.int v13), .unset, .unset, .unset, .unset, .unset, .unset, .unset] [(.int (8 : Int32))])) _
    refine st14 _ ?_
    show Steps p.tables e below (T14.setTop (mkF m 39 #[.val (.int p1), .val (.int p2), .val (.int p3), .val (.int p4), .val (.int p5), .val (.int v5), .val (.int v11), .val (.int v13), .unset, .unset, .unset, .unset, .unset, .unset, .unset] [(.ref b14)])) _
    refine XS.astore X14.here hx rfl (hb hby at_39) rfl rfl (l' := #[.val (.int p1), .val (.int p2), .val (.int p3), .val (.int p4), .val (.int p5), .val (.int v5), .val (.int v11), .val (.int v13), .val (.ref b14), .unset, .unset, .unset, .unset, .unset, .unset]) rfl ?_
    show Steps p.tables e below (T14.setTop (mkF m 41 #[.val (.int p1), .val (.int p2), .val (.int p3), .val (.int p4), .val (.int p5), .val (.int v5), .val (.int v11), .val (.int v13), .val (.ref b14), .unset, .unset, .unset, .unset, .unset, .unset] [])) _
    refine XS.aload X14.here hx rfl (hb hby at_41) rfl rfl ?_
    show Steps p.tables e below (T14.setTop (mkF m 43 #[.val (.int p1), .val (.int p2), .val (.int p3), .val (.int p4), .val (.int p5), .val (.int v5), .val (.int v11), .val (.int v13), .val (.ref b14), .unset, .unset, .unset, .unset, .unset, .unset] [(.ref b14)])) _
    refine XS.iconst X14.here hx rfl (hb hby at_43) ?_
    show Steps p.tables e below (T14.setTop (mkF m 44 #[.val (.int p1), .val (.int p2), .val (.int p3), .val (.int p4), .val (.int p5), .val (.int v5), .val (.int v11), .val (.int v13), .val (.ref b14), .unset, .unset, .unset, .unset, .unset, .unset] [(.int (0 : Int32)), (.ref b14)])) _
    refine XS.iloadN X14.here hx rfl (hb hby at_44) rfl ?_
    show Steps p.tables e below (T14.setTop (mkF m 45 #[.val (.int p1), .val (.int p2), .val (.int p3), .val (.int p4), .val (.int p5), .val (.int v5), .val (.int v11), .val (.int v13), .val (.ref b14), .unset, .unset, .unset, .unset, .unset, .unset] [(.int p2), (.int (0 : Int32)), (.ref b14)])) _
    refine st15 _ ?_
    exact ktx
  have f18 := (V14.keep Kq15 nin0)
  obtain ⟨cl19, Ar19, q19, S19, M19, H19, G19⟩ := id f18
  have hin19 : ¬ ((0 : Int32) < 0 ∨ cl19.slots.size ≤ ((0 : Int32)).toNatClampNeg) := inb_of S19 ⟨by decide, by decide⟩
  obtain ⟨T20, h20, X20, e20, W20, st20⟩ := stR X15 hx hZ rfl Ar19 (j := (0 : Int32)) hin19 rfl (Sto.ofV Ar19 q19 O14r (Ins.of_exa Eq15 (hw _ (List.mem_of_getElem? (i := 9) rfl)))) (g := (mkF m 48 #[.val (.int p1), .val (.int p2), .val (.int p3), .val (.int p4), .val (.int p5), .val (.int v5), .val (.int v11), .val (.int v13), .val (.ref b14), .unset, .unset, .unset, .unset, .unset, .unset] [(.ref b15), (.int (0 : Int32)), (.ref b14)])) rfl rfl (hb hby at_48)
  have Z20 : n0 ≤ h20.size := Nat.le_trans Z15 (Nat.le_of_eq W20.size.symm)
  have O20 := O15.wr W20 g_b14
  have N20 := Fr.snoc X20 N15 g_b14
  have V20 : Arv Z h20 b14 k14 (.object "java/lang/Object") (8 : Int32) [(.ref b15), .null, .null, .null, .null, .null, .null, .null] .null := Arv.set Ar19 q19 S19 M19 H19 G19 rfl W20 0 rfl (Nat.le_of_ble_eq_true rfl)
  obtain ⟨_, _, ⟨T21, L21, k21, n21⟩, -, X21, ⟨Lc21, hQ21, l21, y21, z21⟩, st21⟩ := Jvm.LawKit.callS X20 hx (y := (⟨"java/lang/Integer", "valueOf", "(I)Ljava/lang/Integer;"⟩ : MethodName)) hown (mvT hZ (hw _ (List.mem_of_getElem? (i := 2) rfl))) (mvT hZ (hw _ (List.mem_of_getElem? (i := 3) rfl))) (mvT hZ (hw _ (List.mem_of_getElem? (i := 4) rfl))) (mvT hZ (hw _ (List.mem_of_getElem? (i := 5) rfl))) (by decide) (backOf (W := 2) (rmVO l Z a0 hw [] (p2 + (1 : Int32))  h20 n0 Z20 O20 hcache) hZ (hw _ (List.mem_of_getElem? (i := 5) rfl)) (hw _ (List.mem_of_getElem? (i := 4) rfl)) (by decide) (by decide)) (g := (mkF m 55 #[.val (.int p1), .val (.int p2), .val (.int p3), .val (.int p4), .val (.int p5), .val (.int v5), .val (.int v11), .val (.int v13), .val (.ref b14), .unset, .unset, .unset, .unset, .unset, .unset] [(.int (p2 + (1 : Int32))), (.int (1 : Int32)), (.ref b14)])) rfl (by rw [hml]; rfl) (argsL := [(.int (p2 + (1 : Int32)))]) (rest := [(.int (1 : Int32)), (.ref b14)]) (lenOf own_pd2 rfl) rfl (by show 2 * 0 + _ ≤ _; exact Nat.le_of_eq rfl) (hb hby at_55) (fun _ _ => ⟨rfl, e20, (by decide : 2 + 1 ≤ _), (by decide : 9 + 1 ≤ _)⟩)
  dsimp only [Pt.U, Pt.locs, Pt.cells, Pt.slots] at X21 l21 y21 z21 st21 hQ21
  rw [l21, y21, z21] at X21
  obtain ⟨b21, rfl, Nq21, Kq21, Eq21, Fq21, Dq21⟩ := hQ21
  have N21 := Fr.app N20 Nq21
  have ne22 : b21 ≠ b14 := Dq21 b14 g_b14 V20.lt
  have Z21 : n0 ≤ T21.heap.size := Nat.le_trans Z20 Kq21.1
  have O21 := O20.keep Kq21 all0
  have f23 := (V20.keep Kq21 nin0)
  obtain ⟨cl24, Ar24, q24, S24, M24, H24, G24⟩ := id f23
  have hin24 : ¬ ((1 : Int32) < 0 ∨ cl24.slots.size ≤ ((1 : Int32)).toNatClampNeg) := inb_of S24 ⟨by decide, by decide⟩
  obtain ⟨T25, h25, X25, e25, W25, st25⟩ := stR X21 hx hZ rfl Ar24 (j := (1 : Int32)) hin24 rfl (Sto.ofV Ar24 q24 O14r (Ins.of_exa Eq21 (hw _ (List.mem_of_getElem? (i := 9) rfl)))) (g := (mkF m 58 #[.val (.int p1), .val (.int p2), .val (.int p3), .val (.int p4), .val (.int p5), .val (.int v5), .val (.int v11), .val (.int v13), .val (.ref b14), .unset, .unset, .unset, .unset, .unset, .unset] [(.ref b21), (.int (1 : Int32)), (.ref b14)])) rfl rfl (hb hby at_58)
  have Z25 : n0 ≤ h25.size := Nat.le_trans Z21 (Nat.le_of_eq W25.size.symm)
  have O25 := O21.wr W25 g_b14
  have N25 := Fr.snoc X25 N21 g_b14
  have V25 : Arv Z h25 b14 k14 (.object "java/lang/Object") (8 : Int32) [(.ref b15), (.ref b21), .null, .null, .null, .null, .null, .null] .null := Arv.set Ar24 q24 S24 M24 H24 G24 rfl W25 1 rfl (Nat.le_of_ble_eq_true rfl)
  obtain ⟨_, _, ⟨T26, L26, k26, n26⟩, -, X26, ⟨Lc26, hQ26, l26, y26, z26⟩, st26⟩ := Jvm.LawKit.callS X25 hx (y := (⟨"java/lang/Integer", "valueOf", "(I)Ljava/lang/Integer;"⟩ : MethodName)) hown (mvT hZ (hw _ (List.mem_of_getElem? (i := 2) rfl))) (mvT hZ (hw _ (List.mem_of_getElem? (i := 3) rfl))) (mvT hZ (hw _ (List.mem_of_getElem? (i := 4) rfl))) (mvT hZ (hw _ (List.mem_of_getElem? (i := 5) rfl))) (by decide) (backOf (W := 2) (rmVO l Z a0 hw [] (p2 + (2 : Int32))  h25 n0 Z25 O25 hcache) hZ (hw _ (List.mem_of_getElem? (i := 5) rfl)) (hw _ (List.mem_of_getElem? (i := 4) rfl)) (by decide) (by decide)) (g := (mkF m 65 #[.val (.int p1), .val (.int p2), .val (.int p3), .val (.int p4), .val (.int p5), .val (.int v5), .val (.int v11), .val (.int v13), .val (.ref b14), .unset, .unset, .unset, .unset, .unset, .unset] [(.int (p2 + (2 : Int32))), (.int (2 : Int32)), (.ref b14)])) rfl (by rw [hml]; rfl) (argsL := [(.int (p2 + (2 : Int32)))]) (rest := [(.int (2 : Int32)), (.ref b14)]) (lenOf own_pd2 rfl) rfl (by show 2 * 0 + _ ≤ _; exact Nat.le_of_eq rfl) (hb hby at_65) (fun _ _ => ⟨rfl, e25, (by decide : 3 + 1 ≤ _), (by decide : 10 + 1 ≤ _)⟩)
  dsimp only [Pt.U, Pt.locs, Pt.cells, Pt.slots] at X26 l26 y26 z26 st26 hQ26
  rw [l26, y26, z26] at X26
  obtain ⟨b26, rfl, Nq26, Kq26, Eq26, Fq26, Dq26⟩ := hQ26
  have N26 := Fr.app N25 Nq26
  have ne27 : b26 ≠ b14 := Dq26 b14 g_b14 V25.lt
  have Z26 : n0 ≤ T26.heap.size := Nat.le_trans Z25 Kq26.1
  have O26 := O25.keep Kq26 all0
  have f28 := (V25.keep Kq26 nin0)
  obtain ⟨cl29, Ar29, q29, S29, M29, H29, G29⟩ := id f28
  have hin29 : ¬ ((2 : Int32) < 0 ∨ cl29.slots.size ≤ ((2 : Int32)).toNatClampNeg) := inb_of S29 ⟨by decide, by decide⟩
  obtain ⟨T30, h30, X30, e30, W30, st30⟩ := stR X26 hx hZ rfl Ar29 (j := (2 : Int32)) hin29 rfl (Sto.ofV Ar29 q29 O14r (Ins.of_exa Eq26 (hw _ (List.mem_of_getElem? (i := 9) rfl)))) (g := (mkF m 68 #[.val (.int p1), .val (.int p2), .val (.int p3), .val (.int p4), .val (.int p5), .val (.int v5), .val (.int v11), .val (.int v13), .val (.ref b14), .unset, .unset, .unset, .unset, .unset, .unset] [(.ref b26), (.int (2 : Int32)), (.ref b14)])) rfl rfl (hb hby at_68)
  have Z30 : n0 ≤ h30.size := Nat.le_trans Z26 (Nat.le_of_eq W30.size.symm)
  have O30 := O26.wr W30 g_b14
  have N30 := Fr.snoc X30 N26 g_b14
  have V30 : Arv Z h30 b14 k14 (.object "java/lang/Object") (8 : Int32) [(.ref b15), (.ref b21), (.ref b26), .null, .null, .null, .null, .null] .null := Arv.set Ar29 q29 S29 M29 H29 G29 rfl W30 2 rfl (Nat.le_of_ble_eq_true rfl)
  have go31 : own_go p e below (s₁.setTop (entryFrame m #[(.int p1), (.int p2), (.int p3), (.int p4), (.int p5)] maxLocals)) (T30.setTop (mkF m 69 #[.val (.int p1), .val (.int p2), .val (.int p3), .val (.int p4), .val (.int p5), .val (.int v5), .val (.int v11), .val (.int v13), .val (.ref b14), .unset, .unset, .unset, .unset, .unset, .unset] [])) := by
    intro ttx ktx
    refine go17 ttx ?_
    show Steps p.tables e below (T15.setTop (mkF m 48 #[.val (.int p1), .val (.int p2), .val (.int p3), .val (.int p4), .val (.int p5), .val (.int v5), .val (.int v11), .val (.int v13), .val (.ref b14), .unset, .unset, .unset, .unset, .unset, .unset] [(.ref b15), (.int (0 : Int32)), (.ref b14)])) _
    refine st20 _ ?_
    show Steps p.tables e below (T20.setTop (mkF m 49 #[.val (.int p1), .val (.int p2), .val (.int p3), .val (.int p4), .val (.int p5), .val (.int v5), .val (.int v11), .val (.int v13), .val (.ref b14), .unset, .unset, .unset, .unset, .unset, .unset] [])) _
    refine XS.aload X20.here hx rfl (hb hby at_49) rfl rfl ?_
    show Steps p.tables e below (T20.setTop (mkF m 51 #[.val (.int p1), .val (.int p2), .val (.int p3), .val (.int p4), .val (.int p5), .val (.int v5), .val (.int v11), .val (.int v13), .val (.ref b14), .unset, .unset, .unset, .unset, .unset, .unset] [(.ref b14)])) _
    refine XS.iconst X20.here hx rfl (hb hby at_51) ?_
    show Steps p.tables e below (T20.setTop (mkF m 52 #[.val (.int p1), .val (.int p2), .val (.int p3), .val (.int p4), .val (.int p5), .val (.int v5), .val (.int v11), .val (.int v13), .val (.ref b14), .unset, .unset, .unset, .unset, .unset, .unset] [(.int (1 : Int32)), (.ref b14)])) _
    refine XS.iloadN X20.here hx rfl (hb hby at_52) rfl ?_
    show Steps p.tables e below (T20.setTop (mkF m 53 #[.val (.int p1), .val (.int p2), .val (.int p3), .val (.int p4), .val (.int p5), .val (.int v5), .val (.int v11), .val (.int v13), .val (.ref b14), .unset, .unset, .unset, .unset, .unset, .unset] [(.int p2), (.int (1 : Int32)), (.ref b14)])) _
    refine XS.iconst X20.here hx rfl (hb hby at_53) ?_
    show Steps p.tables e below (T20.setTop (mkF m 54 #[.val (.int p1), .val (.int p2), .val (.int p3), .val (.int p4), .val (.int p5), .val (.int v5), .val (.int v11), .val (.int v13), .val (.ref b14), .unset, .unset, .unset, .unset, .unset, .unset] [(.int (1 : Int32)), (.int p2), (.int (1 : Int32)), (.ref b14)])) _
    refine XS.iadd X20.here hx rfl (hb hby at_54) rfl ?_
    show Steps p.tables e below (T20.setTop (mkF m 55 #[.val (.int p1), .val (.int p2), .val (.int p3), .val (.int p4), .val (.int p5), .val (.int v5), .val (.int v11), .val (.int v13), .val (.ref b14), .unset, .unset, .unset, .unset, .unset, .unset] [(.int (p2 + (1 : Int32))), (.int (1 : Int32)), (.ref b14)])) _
    refine st21 _ ?_
    show Steps p.tables e below (T21.setTop (mkF m 58 #[.val (.int p1), .val (.int p2), .val (.int p3), .val (.int p4), .val (.int p5), .val (.int v5), .val (.int v11), .val (.int v13), .val (.ref b14), .unset, .unset, .unset, .unset, .unset, .unset] [(.ref b21), (.int (1 : Int32)), (.ref b14)])) _
    refine st25 _ ?_
    show Steps p.tables e below (T25.setTop (mkF m 59 #[.val (.int p1), .val (.int p2), .val (.int p3), .val (.int p4), .val (.int p5), .val (.int v5), .val (.int v11), .val (.int v13), .val (.ref b14), .unset, .unset, .unset, .unset, .unset, .unset] [])) _
    refine XS.aload X25.here hx rfl (hb hby at_59) rfl rfl ?_
    show Steps p.tables e below (T25.setTop (mkF m 61 #[.val (.int p1), .val (.int p2), .val (.int p3), .val (.int p4), .val (.int p5), .val (.int v5), .val (.int v11), .val (.int v13), .val (.ref b14), .unset, .unset, .unset, .unset, .unset, .unset] [(.ref b14)])) _
    refine XS.iconst X25.here hx rfl (hb hby at_61) ?_
    show Steps p.tables e below (T25.setTop (mkF m 62 #[.val (.int p1), .val (.int p2), .val (.int p3), .val (.int p4), .val (.int p5), .val (.int v5), .val (.int v11), .val (.int v13), .val (.ref b14), .unset, .unset, .unset, .unset, .unset, .unset] [(.int (2 : Int32)), (.ref b14)])) _
    refine XS.iloadN X25.here hx rfl (hb hby at_62) rfl ?_
    show Steps p.tables e below (T25.setTop (mkF m 63 #[.val (.int p1), .val (.int p2), .val (.int p3), .val (.int p4), .val (.int p5), .val (.int v5), .val (.int v11), .val (.int v13), .val (.ref b14), .unset, .unset, .unset, .unset, .unset, .unset] [(.int p2), (.int (2 : Int32)), (.ref b14)])) _
    refine XS.iconst X25.here hx rfl (hb hby at_63) ?_
    show Steps p.tables e below (T25.setTop (mkF m 64 #[.val (.int p1), .val (.int p2), .val (.int p3), .val (.int p4), .val (.int p5), .val (.int v5), .val (.int v11), .val (.int v13), .val (.ref b14), .unset, .unset, .unset, .unset, .unset, .unset] [(.int (2 : Int32)), (.int p2), (.int (2 : Int32)), (.ref b14)])) _
    refine XS.iadd X25.here hx rfl (hb hby at_64) rfl ?_
    show Steps p.tables e below (T25.setTop (mkF m 65 #[.val (.int p1), .val (.int p2), .val (.int p3), .val (.int p4), .val (.int p5), .val (.int v5), .val (.int v11), .val (.int v13), .val (.ref b14), .unset, .unset, .unset, .unset, .unset, .unset] [(.int (p2 + (2 : Int32))), (.int (2 : Int32)), (.ref b14)])) _
    refine st26 _ ?_
    show Steps p.tables e below (T26.setTop (mkF m 68 #[.val (.int p1), .val (.int p2), .val (.int p3), .val (.int p4), .val (.int p5), .val (.int v5), .val (.int v11), .val (.int v13), .val (.ref b14), .unset, .unset, .unset, .unset, .unset, .unset] [(.ref b26), (.int (2 : Int32)), (.ref b14)])) _
    refine st30 _ ?_
    exact ktx
  obtain ⟨_, _, ⟨T32, L32, k32, n32⟩, -, X32, ⟨Lc32, hQ32, l32, y32, z32⟩, st32⟩ := Jvm.LawKit.callS X30 hx (y := (⟨"java/lang/Integer", "valueOf", "(I)Ljava/lang/Integer;"⟩ : MethodName)) hown (mvT hZ (hw _ (List.mem_of_getElem? (i := 2) rfl))) (mvT hZ (hw _ (List.mem_of_getElem? (i := 3) rfl))) (mvT hZ (hw _ (List.mem_of_getElem? (i := 4) rfl))) (mvT hZ (hw _ (List.mem_of_getElem? (i := 5) rfl))) (by decide) (backOf (W := 2) (rmVO l Z a0 hw [] (p2 + (3 : Int32))  h30 n0 Z30 O30 hcache) hZ (hw _ (List.mem_of_getElem? (i := 5) rfl)) (hw _ (List.mem_of_getElem? (i := 4) rfl)) (by decide) (by decide)) (g := (mkF m 75 #[.val (.int p1), .val (.int p2), .val (.int p3), .val (.int p4), .val (.int p5), .val (.int v5), .val (.int v11), .val (.int v13), .val (.ref b14), .unset, .unset, .unset, .unset, .unset, .unset] [(.int (p2 + (3 : Int32))), (.int (3 : Int32)), (.ref b14)])) rfl (by rw [hml]; rfl) (argsL := [(.int (p2 + (3 : Int32)))]) (rest := [(.int (3 : Int32)), (.ref b14)]) (lenOf own_pd2 rfl) rfl (by show 2 * 0 + _ ≤ _; exact Nat.le_of_eq rfl) (hb hby at_75) (fun _ _ => ⟨rfl, e30, (by decide : 4 + 1 ≤ _), (by decide : 11 + 1 ≤ _)⟩)
  dsimp only [Pt.U, Pt.locs, Pt.cells, Pt.slots] at X32 l32 y32 z32 st32 hQ32
  rw [l32, y32, z32] at X32
  obtain ⟨b32, rfl, Nq32, Kq32, Eq32, Fq32, Dq32⟩ := hQ32
  have N32 := Fr.app N30 Nq32
  have ne33 : b32 ≠ b14 := Dq32 b14 g_b14 V30.lt
  have Z32 : n0 ≤ T32.heap.size := Nat.le_trans Z30 Kq32.1
  have O32 := O30.keep Kq32 all0
  have f34 := (V30.keep Kq32 nin0)
  obtain ⟨cl35, Ar35, q35, S35, M35, H35, G35⟩ := id f34
  have hin35 : ¬ ((3 : Int32) < 0 ∨ cl35.slots.size ≤ ((3 : Int32)).toNatClampNeg) := inb_of S35 ⟨by decide, by decide⟩
  obtain ⟨T36, h36, X36, e36, W36, st36⟩ := stR X32 hx hZ rfl Ar35 (j := (3 : Int32)) hin35 rfl (Sto.ofV Ar35 q35 O14r (Ins.of_exa Eq32 (hw _ (List.mem_of_getElem? (i := 9) rfl)))) (g := (mkF m 78 #[.val (.int p1), .val (.int p2), .val (.int p3), .val (.int p4), .val (.int p5), .val (.int v5), .val (.int v11), .val (.int v13), .val (.ref b14), .unset, .unset, .unset, .unset, .unset, .unset] [(.ref b32), (.int (3 : Int32)), (.ref b14)])) rfl rfl (hb hby at_78)
  have Z36 : n0 ≤ h36.size := Nat.le_trans Z32 (Nat.le_of_eq W36.size.symm)
  have O36 := O32.wr W36 g_b14
  have N36 := Fr.snoc X36 N32 g_b14
  have V36 : Arv Z h36 b14 k14 (.object "java/lang/Object") (8 : Int32) [(.ref b15), (.ref b21), (.ref b26), (.ref b32), .null, .null, .null, .null] .null := Arv.set Ar35 q35 S35 M35 H35 G35 rfl W36 3 rfl (Nat.le_of_ble_eq_true rfl)
  obtain ⟨_, _, ⟨T37, L37, k37, n37⟩, -, X37, ⟨Lc37, hQ37, l37, y37, z37⟩, st37⟩ := Jvm.LawKit.callS X36 hx (y := (⟨"java/lang/Integer", "valueOf", "(I)Ljava/lang/Integer;"⟩ : MethodName)) hown (mvT hZ (hw _ (List.mem_of_getElem? (i := 2) rfl))) (mvT hZ (hw _ (List.mem_of_getElem? (i := 3) rfl))) (mvT hZ (hw _ (List.mem_of_getElem? (i := 4) rfl))) (mvT hZ (hw _ (List.mem_of_getElem? (i := 5) rfl))) (by decide) (backOf (W := 2) (rmVO l Z a0 hw [] (p2 + (4 : Int32))  h36 n0 Z36 O36 hcache) hZ (hw _ (List.mem_of_getElem? (i := 5) rfl)) (hw _ (List.mem_of_getElem? (i := 4) rfl)) (by decide) (by decide)) (g := (mkF m 85 #[.val (.int p1), .val (.int p2), .val (.int p3), .val (.int p4), .val (.int p5), .val (.int v5), .val (.int v11), .val (.int v13), .val (.ref b14), .unset, .unset, .unset, .unset, .unset, .unset] [(.int (p2 + (4 : Int32))), (.int (4 : Int32)), (.ref b14)])) rfl (by rw [hml]; rfl) (argsL := [(.int (p2 + (4 : Int32)))]) (rest := [(.int (4 : Int32)), (.ref b14)]) (lenOf own_pd2 rfl) rfl (by show 2 * 0 + _ ≤ _; exact Nat.le_of_eq rfl) (hb hby at_85) (fun _ _ => ⟨rfl, e36, (by decide : 5 + 1 ≤ _), (by decide : 12 + 1 ≤ _)⟩)
  dsimp only [Pt.U, Pt.locs, Pt.cells, Pt.slots] at X37 l37 y37 z37 st37 hQ37
  rw [l37, y37, z37] at X37
  obtain ⟨b37, rfl, Nq37, Kq37, Eq37, Fq37, Dq37⟩ := hQ37
  have N37 := Fr.app N36 Nq37
  have ne38 : b37 ≠ b14 := Dq37 b14 g_b14 V36.lt
  have Z37 : n0 ≤ T37.heap.size := Nat.le_trans Z36 Kq37.1
  have O37 := O36.keep Kq37 all0
  have f39 := (V36.keep Kq37 nin0)
  obtain ⟨cl40, Ar40, q40, S40, M40, H40, G40⟩ := id f39
  have hin40 : ¬ ((4 : Int32) < 0 ∨ cl40.slots.size ≤ ((4 : Int32)).toNatClampNeg) := inb_of S40 ⟨by decide, by decide⟩
  obtain ⟨T41, h41, X41, e41, W41, st41⟩ := stR X37 hx hZ rfl Ar40 (j := (4 : Int32)) hin40 rfl (Sto.ofV Ar40 q40 O14r (Ins.of_exa Eq37 (hw _ (List.mem_of_getElem? (i := 9) rfl)))) (g := (mkF m 88 #[.val (.int p1), .val (.int p2), .val (.int p3), .val (.int p4), .val (.int p5), .val (.int v5), .val (.int v11), .val (.int v13), .val (.ref b14), .unset, .unset, .unset, .unset, .unset, .unset] [(.ref b37), (.int (4 : Int32)), (.ref b14)])) rfl rfl (hb hby at_88)
  have Z41 : n0 ≤ h41.size := Nat.le_trans Z37 (Nat.le_of_eq W41.size.symm)
  have O41 := O37.wr W41 g_b14
  have N41 := Fr.snoc X41 N37 g_b14
  have V41 : Arv Z h41 b14 k14 (.object "java/lang/Object") (8 : Int32) [(.ref b15), (.ref b21), (.ref b26), (.ref b32), (.ref b37), .null, .null, .null] .null := Arv.set Ar40 q40 S40 M40 H40 G40 rfl W41 4 rfl (Nat.le_of_ble_eq_true rfl)
  have go42 : own_go p e below (s₁.setTop (entryFrame m #[(.int p1), (.int p2), (.int p3), (.int p4), (.int p5)] maxLocals)) (T41.setTop (mkF m 91 #[.val (.int p1), .val (.int p2), .val (.int p3), .val (.int p4), .val (.int p5), .val (.int v5), .val (.int v11), .val (.int v13), .val (.ref b14), .unset, .unset, .unset, .unset, .unset, .unset] [(.ref b14)])) := by
    intro ttx ktx
    refine go31 ttx ?_
    show Steps p.tables e below (T30.setTop (mkF m 69 #[.val (.int p1), .val (.int p2), .val (.int p3), .val (.int p4), .val (.int p5), .val (.int v5), .val (.int v11), .val (.int v13), .val (.ref b14), .unset, .unset, .unset, .unset, .unset, .unset] [])) _
    refine XS.aload X30.here hx rfl (hb hby at_69) rfl rfl ?_
    show Steps p.tables e below (T30.setTop (mkF m 71 #[.val (.int p1), .val (.int p2), .val (.int p3), .val (.int p4), .val (.int p5), .val (.int v5), .val (.int v11), .val (.int v13), .val (.ref b14), .unset, .unset, .unset, .unset, .unset, .unset] [(.ref b14)])) _
    refine XS.iconst X30.here hx rfl (hb hby at_71) ?_
    show Steps p.tables e below (T30.setTop (mkF m 72 #[.val (.int p1), .val (.int p2), .val (.int p3), .val (.int p4), .val (.int p5), .val (.int v5), .val (.int v11), .val (.int v13), .val (.ref b14), .unset, .unset, .unset, .unset, .unset, .unset] [(.int (3 : Int32)), (.ref b14)])) _
    refine XS.iloadN X30.here hx rfl (hb hby at_72) rfl ?_
    show Steps p.tables e below (T30.setTop (mkF m 73 #[.val (.int p1), .val (.int p2), .val (.int p3), .val (.int p4), .val (.int p5), .val (.int v5), .val (.int v11), .val (.int v13), .val (.ref b14), .unset, .unset, .unset, .unset, .unset, .unset] [(.int p2), (.int (3 : Int32)), (.ref b14)])) _
    refine XS.iconst X30.here hx rfl (hb hby at_73) ?_
    show Steps p.tables e below (T30.setTop (mkF m 74 #[.val (.int p1), .val (.int p2), .val (.int p3), .val (.int p4), .val (.int p5), .val (.int v5), .val (.int v11), .val (.int v13), .val (.ref b14), .unset, .unset, .unset, .unset, .unset, .unset] [(.int (3 : Int32)), (.int p2), (.int (3 : Int32)), (.ref b14)])) _
    refine XS.iadd X30.here hx rfl (hb hby at_74) rfl ?_
    show Steps p.tables e below (T30.setTop (mkF m 75 #[.val (.int p1), .val (.int p2), .val (.int p3), .val (.int p4), .val (.int p5), .val (.int v5), .val (.int v11), .val (.int v13), .val (.ref b14), .unset, .unset, .unset, .unset, .unset, .unset] [(.int (p2 + (3 : Int32))), (.int (3 : Int32)), (.ref b14)])) _
    refine st32 _ ?_
    show Steps p.tables e below (T32.setTop (mkF m 78 #[.val (.int p1), .val (.int p2), .val (.int p3), .val (.int p4), .val (.int p5), .val (.int v5), .val (.int v11), .val (.int v13), .val (.ref b14), .unset, .unset, .unset, .unset, .unset, .unset] [(.ref b32), (.int (3 : Int32)), (.ref b14)])) _
    refine st36 _ ?_
    show Steps p.tables e below (T36.setTop (mkF m 79 #[.val (.int p1), .val (.int p2), .val (.int p3), .val (.int p4), .val (.int p5), .val (.int v5), .val (.int v11), .val (.int v13), .val (.ref b14), .unset, .unset, .unset, .unset, .unset, .unset] [])) _
    refine XS.aload X36.here hx rfl (hb hby at_79) rfl rfl ?_
    show Steps p.tables e below (T36.setTop (mkF m 81 #[.val (.int p1), .val (.int p2), .val (.int p3), .val (.int p4), .val (.int p5), .val (.int v5), .val (.int v11), .val (.int v13), .val (.ref b14), .unset, .unset, .unset, .unset, .unset, .unset] [(.ref b14)])) _
    refine XS.iconst X36.here hx rfl (hb hby at_81) ?_
    show Steps p.tables e below (T36.setTop (mkF m 82 #[.val (.int p1), .val (.int p2), .val (.int p3), .val (.int p4), .val (.int p5), .val (.int v5), .val (.int v11), .val (.int v13), .val (.ref b14), .unset, .unset, .unset, .unset, .unset, .unset] [(.int (4 : Int32)), (.ref b14)])) _
    refine XS.iloadN X36.here hx rfl (hb hby at_82) rfl ?_
    show Steps p.tables e below (T36.setTop (mkF m 83 #[.val (.int p1), .val (.int p2), .val (.int p3), .val (.int p4), .val (.int p5), .val (.int v5), .val (.int v11), .val (.int v13), .val (.ref b14), .unset, .unset, .unset, .unset, .unset, .unset] [(.int p2), (.int (4 : Int32)), (.ref b14)])) _
    refine XS.iconst X36.here hx rfl (hb hby at_83) ?_
    show Steps p.tables e below (T36.setTop (mkF m 84 #[.val (.int p1), .val (.int p2), .val (.int p3), .val (.int p4), .val (.int p5), .val (.int v5), .val (.int v11), .val (.int v13), .val (.ref b14), .unset, .unset, .unset, .unset, .unset, .unset] [(.int (4 : Int32)), (.int p2), (.int (4 : Int32)), (.ref b14)])) _
    refine XS.iadd X36.here hx rfl (hb hby at_84) rfl ?_
    show Steps p.tables e below (T36.setTop (mkF m 85 #[.val (.int p1), .val (.int p2), .val (.int p3), .val (.int p4), .val (.int p5), .val (.int v5), .val (.int v11), .val (.int v13), .val (.ref b14), .unset, .unset, .unset, .unset, .unset, .unset] [(.int (p2 + (4 : Int32))), (.int (4 : Int32)), (.ref b14)])) _
    refine st37 _ ?_
    show Steps p.tables e below (T37.setTop (mkF m 88 #[.val (.int p1), .val (.int p2), .val (.int p3), .val (.int p4), .val (.int p5), .val (.int v5), .val (.int v11), .val (.int v13), .val (.ref b14), .unset, .unset, .unset, .unset, .unset, .unset] [(.ref b37), (.int (4 : Int32)), (.ref b14)])) _
    refine st41 _ ?_
    show Steps p.tables e below (T41.setTop (mkF m 89 #[.val (.int p1), .val (.int p2), .val (.int p3), .val (.int p4), .val (.int p5), .val (.int v5), .val (.int v11), .val (.int v13), .val (.ref b14), .unset, .unset, .unset, .unset, .unset, .unset] [])) _
    refine XS.aload X41.here hx rfl (hb hby at_89) rfl rfl ?_
    exact ktx
  obtain ⟨_, _, ⟨T43, L43, k43, n43⟩, -, X43, ⟨Lc43, hQ43, l43, y43, z43⟩, st43⟩ := Jvm.LawKit.callS X41 hx (y := (⟨"java/lang/Integer", "valueOf", "(I)Ljava/lang/Integer;"⟩ : MethodName)) hown (mvT hZ (hw _ (List.mem_of_getElem? (i := 2) rfl))) (mvT hZ (hw _ (List.mem_of_getElem? (i := 3) rfl))) (mvT hZ (hw _ (List.mem_of_getElem? (i := 4) rfl))) (mvT hZ (hw _ (List.mem_of_getElem? (i := 5) rfl))) (by decide) (backOf (W := 2) (rmVO l Z a0 hw [] (p2 + (5 : Int32))  h41 n0 Z41 O41 hcache) hZ (hw _ (List.mem_of_getElem? (i := 5) rfl)) (hw _ (List.mem_of_getElem? (i := 4) rfl)) (by decide) (by decide)) (g := (mkF m 95 #[.val (.int p1), .val (.int p2), .val (.int p3), .val (.int p4), .val (.int p5), .val (.int v5), .val (.int v11), .val (.int v13), .val (.ref b14), .unset, .unset, .unset, .unset, .unset, .unset] [(.int (p2 + (5 : Int32))), (.int (5 : Int32)), (.ref b14)])) rfl (by rw [hml]; rfl) (argsL := [(.int (p2 + (5 : Int32)))]) (rest := [(.int (5 : Int32)), (.ref b14)]) (lenOf own_pd2 rfl) rfl (by show 2 * 0 + _ ≤ _; exact Nat.le_of_eq rfl) (hb hby at_95) (fun _ _ => ⟨rfl, e41, (by decide : 6 + 1 ≤ _), (by decide : 13 + 1 ≤ _)⟩)
  dsimp only [Pt.U, Pt.locs, Pt.cells, Pt.slots] at X43 l43 y43 z43 st43 hQ43
  rw [l43, y43, z43] at X43
  obtain ⟨b43, rfl, Nq43, Kq43, Eq43, Fq43, Dq43⟩ := hQ43
  have N43 := Fr.app N41 Nq43
  have ne44 : b43 ≠ b14 := Dq43 b14 g_b14 V41.lt
  have Z43 : n0 ≤ T43.heap.size := Nat.le_trans Z41 Kq43.1
  have O43 := O41.keep Kq43 all0
  have f45 := (V41.keep Kq43 nin0)
  obtain ⟨cl46, Ar46, q46, S46, M46, H46, G46⟩ := id f45
  have hin46 : ¬ ((5 : Int32) < 0 ∨ cl46.slots.size ≤ ((5 : Int32)).toNatClampNeg) := inb_of S46 ⟨by decide, by decide⟩
  obtain ⟨T47, h47, X47, e47, W47, st47⟩ := stR X43 hx hZ rfl Ar46 (j := (5 : Int32)) hin46 rfl (Sto.ofV Ar46 q46 O14r (Ins.of_exa Eq43 (hw _ (List.mem_of_getElem? (i := 9) rfl)))) (g := (mkF m 98 #[.val (.int p1), .val (.int p2), .val (.int p3), .val (.int p4), .val (.int p5), .val (.int v5), .val (.int v11), .val (.int v13), .val (.ref b14), .unset, .unset, .unset, .unset, .unset, .unset] [(.ref b43), (.int (5 : Int32)), (.ref b14)])) rfl rfl (hb hby at_98)
  have Z47 : n0 ≤ h47.size := Nat.le_trans Z43 (Nat.le_of_eq W47.size.symm)
  have O47 := O43.wr W47 g_b14
  have N47 := Fr.snoc X47 N43 g_b14
  have V47 : Arv Z h47 b14 k14 (.object "java/lang/Object") (8 : Int32) [(.ref b15), (.ref b21), (.ref b26), (.ref b32), (.ref b37), (.ref b43), .null, .null] .null := Arv.set Ar46 q46 S46 M46 H46 G46 rfl W47 5 rfl (Nat.le_of_ble_eq_true rfl)
  obtain ⟨_, _, ⟨T48, L48, k48, n48⟩, -, X48, ⟨Lc48, hQ48, l48, y48, z48⟩, st48⟩ := Jvm.LawKit.callS X47 hx (y := (⟨"java/lang/Integer", "valueOf", "(I)Ljava/lang/Integer;"⟩ : MethodName)) hown (mvT hZ (hw _ (List.mem_of_getElem? (i := 2) rfl))) (mvT hZ (hw _ (List.mem_of_getElem? (i := 3) rfl))) (mvT hZ (hw _ (List.mem_of_getElem? (i := 4) rfl))) (mvT hZ (hw _ (List.mem_of_getElem? (i := 5) rfl))) (by decide) (backOf (W := 2) (rmVO l Z a0 hw [] (p2 + (6 : Int32))  h47 n0 Z47 O47 hcache) hZ (hw _ (List.mem_of_getElem? (i := 5) rfl)) (hw _ (List.mem_of_getElem? (i := 4) rfl)) (by decide) (by decide)) (g := (mkF m 107 #[.val (.int p1), .val (.int p2), .val (.int p3), .val (.int p4), .val (.int p5), .val (.int v5), .val (.int v11), .val (.int v13), .val (.ref b14), .unset, .unset, .unset, .unset, .unset, .unset] [(.int (p2 + (6 : Int32))), (.int (6 : Int32)), (.ref b14)])) rfl (by rw [hml]; rfl) (argsL := [(.int (p2 + (6 : Int32)))]) (rest := [(.int (6 : Int32)), (.ref b14)]) (lenOf own_pd2 rfl) rfl (by show 2 * 0 + _ ≤ _; exact Nat.le_of_eq rfl) (hb hby at_107) (fun _ _ => ⟨rfl, e47, (by decide : 7 + 1 ≤ _), (by decide : 14 + 1 ≤ _)⟩)
  dsimp only [Pt.U, Pt.locs, Pt.cells, Pt.slots] at X48 l48 y48 z48 st48 hQ48
  rw [l48, y48, z48] at X48
  obtain ⟨b48, rfl, Nq48, Kq48, Eq48, Fq48, Dq48⟩ := hQ48
  have N48 := Fr.app N47 Nq48
  have ne49 : b48 ≠ b14 := Dq48 b14 g_b14 V47.lt
  have Z48 : n0 ≤ T48.heap.size := Nat.le_trans Z47 Kq48.1
  have O48 := O47.keep Kq48 all0
  have f50 := (V47.keep Kq48 nin0)
  obtain ⟨cl51, Ar51, q51, S51, M51, H51, G51⟩ := id f50
  have hin51 : ¬ ((6 : Int32) < 0 ∨ cl51.slots.size ≤ ((6 : Int32)).toNatClampNeg) := inb_of S51 ⟨by decide, by decide⟩
  obtain ⟨T52, h52, X52, e52, W52, st52⟩ := stR X48 hx hZ rfl Ar51 (j := (6 : Int32)) hin51 rfl (Sto.ofV Ar51 q51 O14r (Ins.of_exa Eq48 (hw _ (List.mem_of_getElem? (i := 9) rfl)))) (g := (mkF m 110 #[.val (.int p1), .val (.int p2), .val (.int p3), .val (.int p4), .val (.int p5), .val (.int v5), .val (.int v11), .val (.int v13), .val (.ref b14), .unset, .unset, .unset, .unset, .unset, .unset] [(.ref b48), (.int (6 : Int32)), (.ref b14)])) rfl rfl (hb hby at_110)
  have Z52 : n0 ≤ h52.size := Nat.le_trans Z48 (Nat.le_of_eq W52.size.symm)
  have O52 := O48.wr W52 g_b14
  have N52 := Fr.snoc X52 N48 g_b14
  have V52 : Arv Z h52 b14 k14 (.object "java/lang/Object") (8 : Int32) [(.ref b15), (.ref b21), (.ref b26), (.ref b32), (.ref b37), (.ref b43), (.ref b48), .null] .null := Arv.set Ar51 q51 S51 M51 H51 G51 rfl W52 6 rfl (Nat.le_of_ble_eq_true rfl)
  have go53 : own_go p e below (s₁.setTop (entryFrame m #[(.int p1), (.int p2), (.int p3), (.int p4), (.int p5)] maxLocals)) (T52.setTop (mkF m 115 #[.val (.int p1), .val (.int p2), .val (.int p3), .val (.int p4), .val (.int p5), .val (.int v5), .val (.int v11), .val (.int v13), .val (.ref b14), .unset, .unset, .unset, .unset, .unset, .unset] [(.int (7 : Int32)), (.ref b14)])) := by
    intro ttx ktx
    refine go42 ttx ?_
    show Steps p.tables e below (T41.setTop (mkF m 91 #[.val (.int p1), .val (.int p2), .val (.int p3), .val (.int p4), .val (.int p5), .val (.int v5), .val (.int v11), .val (.int v13), .val (.ref b14), .unset, .unset, .unset, .unset, .unset, .unset] [(.ref b14)])) _
    refine XS.iconst X41.here hx rfl (hb hby at_91) ?_
    show Steps p.tables e below (T41.setTop (mkF m 92 #[.val (.int p1), .val (.int p2), .val (.int p3), .val (.int p4), .val (.int p5), .val (.int v5), .val (.int v11), .val (.int v13), .val (.ref b14), .unset, .unset, .unset, .unset, .unset, .unset] [(.int (5 : Int32)), (.ref b14)])) _
    refine XS.iloadN X41.here hx rfl (hb hby at_92) rfl ?_
    show Steps p.tables e below (T41.setTop (mkF m 93 #[.val (.int p1), .val (.int p2), .val (.int p3), .val (.int p4), .val (.int p5), .val (.int v5), .val (.int v11), .val (.int v13), .val (.ref b14), .unset, .unset, .unset, .unset, .unset, .unset] [(.int p2), (.int (5 : Int32)), (.ref b14)])) _
    refine XS.iconst X41.here hx rfl (hb hby at_93) ?_
    show Steps p.tables e below (T41.setTop (mkF m 94 #[.val (.int p1), .val (.int p2), .val (.int p3), .val (.int p4), .val (.int p5), .val (.int v5), .val (.int v11), .val (.int v13), .val (.ref b14), .unset, .unset, .unset, .unset, .unset, .unset] [(.int (5 : Int32)), (.int p2), (.int (5 : Int32)), (.ref b14)])) _
    refine XS.iadd X41.here hx rfl (hb hby at_94) rfl ?_
    show Steps p.tables e below (T41.setTop (mkF m 95 #[.val (.int p1), .val (.int p2), .val (.int p3), .val (.int p4), .val (.int p5), .val (.int v5), .val (.int v11), .val (.int v13), .val (.ref b14), .unset, .unset, .unset, .unset, .unset, .unset] [(.int (p2 + (5 : Int32))), (.int (5 : Int32)), (.ref b14)])) _
    refine st43 _ ?_
    show Steps p.tables e below (T43.setTop (mkF m 98 #[.val (.int p1), .val (.int p2), .val (.int p3), .val (.int p4), .val (.int p5), .val (.int v5), .val (.int v11), .val (.int v13), .val (.ref b14), .unset, .unset, .unset, .unset, .unset, .unset] [(.ref b43), (.int (5 : Int32)), (.ref b14)])) _
    refine st47 _ ?_
    show Steps p.tables e below (T47.setTop (mkF m 99 #[.val (.int p1), .val (.int p2), .val (.int p3), .val (.int p4), .val (.int p5), .val (.int v5), .val (.int v11), .val (.int v13), .val (.ref b14), .unset, .unset, .unset, .unset, .unset, .unset] [])) _
    refine XS.aload X47.here hx rfl (hb hby at_99) rfl rfl ?_
    show Steps p.tables e below (T47.setTop (mkF m 101 #[.val (.int p1), .val (.int p2), .val (.int p3), .val (.int p4), .val (.int p5), .val (.int v5), .val (.int v11), .val (.int v13), .val (.ref b14), .unset, .unset, .unset, .unset, .unset, .unset] [(.ref b14)])) _
    refine XS.bipush X47.here hx rfl (hb hby at_101) ?_
    show Steps p.tables e below (T47.setTop (mkF m 103 #[.val (.int p1), .val (.int p2), .val (.int p3), .val (.int p4), .val (.int p5), .val (.int v5), .val (.int v11), .val (.int v13), .val (.ref b14), .unset, .unset, .unset, .unset, .unset, .unset] [(.int (6 : Int32)), (.ref b14)])) _
    refine XS.iloadN X47.here hx rfl (hb hby at_103) rfl ?_
    show Steps p.tables e below (T47.setTop (mkF m 104 #[.val (.int p1), .val (.int p2), .val (.int p3), .val (.int p4), .val (.int p5), .val (.int v5), .val (.int v11), .val (.int v13), .val (.ref b14), .unset, .unset, .unset, .unset, .unset, .unset] [(.int p2), (.int (6 : Int32)), (.ref b14)])) _
    refine XS.bipush X47.here hx rfl (hb hby at_104) ?_
    show Steps p.tables e below (T47.setTop (mkF m 106 #[.val (.int p1), .val (.int p2), .val (.int p3), .val (.int p4), .val (.int p5), .val (.int v5), .val (.int v11), .val (.int v13), .val (.ref b14), .unset, .unset, .unset, .unset, .unset, .unset] [(.int (6 : Int32)), (.int p2), (.int (6 : Int32)), (.ref b14)])) _
    refine XS.iadd X47.here hx rfl (hb hby at_106) rfl ?_
    show Steps p.tables e below (T47.setTop (mkF m 107 #[.val (.int p1), .val (.int p2), .val (.int p3), .val (.int p4), .val (.int p5), .val (.int v5), .val (.int v11), .val (.int v13), .val (.ref b14), .unset, .unset, .unset, .unset, .unset, .unset] [(.int (p2 + (6 : Int32))), (.int (6 : Int32)), (.ref b14)])) _
    refine st48 _ ?_
    show Steps p.tables e below (T48.setTop (mkF m 110 #[.val (.int p1), .val (.int p2), .val (.int p3), .val (.int p4), .val (.int p5), .val (.int v5), .val (.int v11), .val (.int v13), .val (.ref b14), .unset, .unset, .unset, .unset, .unset, .unset] [(.ref b48), (.int (6 : Int32)), (.ref b14)])) _
    refine st52 _ ?_
    show Steps p.tables e below (T52.setTop (mkF m 111 #[.val (.int p1), .val (.int p2), .val (.int p3), .val (.int p4), .val (.int p5), .val (.int v5), .val (.int v11), .val (.int v13), .val (.ref b14), .unset, .unset, .unset, .unset, .unset, .unset] [])) _
    refine XS.aload X52.here hx rfl (hb hby at_111) rfl rfl ?_
    show Steps p.tables e below (T52.setTop (mkF m 113 #[.val (.int p1), .val (.int p2), .val (.int p3), .val (.int p4), .val (.int p5), .val (.int v5), .val (.int v11), .val (.int v13), .val (.ref b14), .unset, .unset, .unset, .unset, .unset, .unset] [(.ref b14)])) _
    refine XS.bipush X52.here hx rfl (hb hby at_113) ?_
    exact ktx
  obtain ⟨_, _, ⟨T54, L54, k54, n54⟩, -, X54, ⟨Lc54, hQ54, l54, y54, z54⟩, st54⟩ := Jvm.LawKit.callS X52 hx (y := (⟨"java/lang/Integer", "valueOf", "(I)Ljava/lang/Integer;"⟩ : MethodName)) hown (mvT hZ (hw _ (List.mem_of_getElem? (i := 2) rfl))) (mvT hZ (hw _ (List.mem_of_getElem? (i := 3) rfl))) (mvT hZ (hw _ (List.mem_of_getElem? (i := 4) rfl))) (mvT hZ (hw _ (List.mem_of_getElem? (i := 5) rfl))) (by decide) (backOf (W := 2) (rmVO l Z a0 hw [] (p2 + (7 : Int32))  h52 n0 Z52 O52 hcache) hZ (hw _ (List.mem_of_getElem? (i := 5) rfl)) (hw _ (List.mem_of_getElem? (i := 4) rfl)) (by decide) (by decide)) (g := (mkF m 119 #[.val (.int p1), .val (.int p2), .val (.int p3), .val (.int p4), .val (.int p5), .val (.int v5), .val (.int v11), .val (.int v13), .val (.ref b14), .unset, .unset, .unset, .unset, .unset, .unset] [(.int (p2 + (7 : Int32))), (.int (7 : Int32)), (.ref b14)])) rfl (by rw [hml]; rfl) (argsL := [(.int (p2 + (7 : Int32)))]) (rest := [(.int (7 : Int32)), (.ref b14)]) (lenOf own_pd2 rfl) rfl (by show 2 * 0 + _ ≤ _; exact Nat.le_of_eq rfl) (hb hby at_119) (fun _ _ => ⟨rfl, e52, (by decide : 8 + 1 ≤ _), (by decide : 15 + 1 ≤ _)⟩)
  dsimp only [Pt.U, Pt.locs, Pt.cells, Pt.slots] at X54 l54 y54 z54 st54 hQ54
  rw [l54, y54, z54] at X54
  obtain ⟨b54, rfl, Nq54, Kq54, Eq54, Fq54, Dq54⟩ := hQ54
  have N54 := Fr.app N52 Nq54
  have ne55 : b54 ≠ b14 := Dq54 b14 g_b14 V52.lt
  have Z54 : n0 ≤ T54.heap.size := Nat.le_trans Z52 Kq54.1
  have O54 := O52.keep Kq54 all0
  have f56 := (V52.keep Kq54 nin0)
  obtain ⟨cl57, Ar57, q57, S57, M57, H57, G57⟩ := id f56
  have hin57 : ¬ ((7 : Int32) < 0 ∨ cl57.slots.size ≤ ((7 : Int32)).toNatClampNeg) := inb_of S57 ⟨by decide, by decide⟩
  obtain ⟨T58, h58, X58, e58, W58, st58⟩ := stR X54 hx hZ rfl Ar57 (j := (7 : Int32)) hin57 rfl (Sto.ofV Ar57 q57 O14r (Ins.of_exa Eq54 (hw _ (List.mem_of_getElem? (i := 9) rfl)))) (g := (mkF m 122 #[.val (.int p1), .val (.int p2), .val (.int p3), .val (.int p4), .val (.int p5), .val (.int v5), .val (.int v11), .val (.int v13), .val (.ref b14), .unset, .unset, .unset, .unset, .unset, .unset] [(.ref b54), (.int (7 : Int32)), (.ref b14)])) rfl rfl (hb hby at_122)
  have Z58 : n0 ≤ h58.size := Nat.le_trans Z54 (Nat.le_of_eq W58.size.symm)
  have O58 := O54.wr W58 g_b14
  have N58 := Fr.snoc X58 N54 g_b14
  have V58 : Arv Z h58 b14 k14 (.object "java/lang/Object") (8 : Int32) [(.ref b15), (.ref b21), (.ref b26), (.ref b32), (.ref b37), (.ref b43), (.ref b48), (.ref b54)] .null := Arv.set Ar57 q57 S57 M57 H57 G57 rfl W58 7 rfl (Nat.le_of_ble_eq_true rfl)
  have go59 : own_go p e below (s₁.setTop (entryFrame m #[(.int p1), (.int p2), (.int p3), (.int p4), (.int p5)] maxLocals)) (T58.setTop (mkF m 125 #[.val (.int p1), .val (.int p2), .val (.int p3), .val (.int p4), .val (.int p5), .val (.int v5), .val (.int v11), .val (.int v13), .val (.ref b14), .unset, .unset, .unset, .unset, .unset, .unset] [(.int v11)])) := by
    intro ttx ktx
    refine go53 ttx ?_
    show Steps p.tables e below (T52.setTop (mkF m 115 #[.val (.int p1), .val (.int p2), .val (.int p3), .val (.int p4), .val (.int p5), .val (.int v5), .val (.int v11), .val (.int v13), .val (.ref b14), .unset, .unset, .unset, .unset, .unset, .unset] [(.int (7 : Int32)), (.ref b14)])) _
    refine XS.iloadN X52.here hx rfl (hb hby at_115) rfl ?_
    show Steps p.tables e below (T52.setTop (mkF m 116 #[.val (.int p1), .val (.int p2), .val (.int p3), .val (.int p4), .val (.int p5), .val (.int v5), .val (.int v11), .val (.int v13), .val (.ref b14), .unset, .unset, .unset, .unset, .unset, .unset] [(.int p2), (.int (7 : Int32)), (.ref b14)])) _
    refine XS.bipush X52.here hx rfl (hb hby at_116) ?_
    show Steps p.tables e below (T52.setTop (mkF m 118 #[.val (.int p1), .val (.int p2), .val (.int p3), .val (.int p4), .val (.int p5), .val (.int v5), .val (.int v11), .val (.int v13), .val (.ref b14), .unset, .unset, .unset, .unset, .unset, .unset] [(.int (7 : Int32)), (.int p2), (.int (7 : Int32)), (.ref b14)])) _
    refine XS.iadd X52.here hx rfl (hb hby at_118) rfl ?_
    show Steps p.tables e below (T52.setTop (mkF m 119 #[.val (.int p1), .val (.int p2), .val (.int p3), .val (.int p4), .val (.int p5), .val (.int v5), .val (.int v11), .val (.int v13), .val (.ref b14), .unset, .unset, .unset, .unset, .unset, .unset] [(.int (p2 + (7 : Int32))), (.int (7 : Int32)), (.ref b14)])) _
    refine st54 _ ?_
    show Steps p.tables e below (T54.setTop (mkF m 122 #[.val (.int p1), .val (.int p2), .val (.int p3), .val (.int p4), .val (.int p5), .val (.int v5), .val (.int v11), .val (.int v13), .val (.ref b14), .unset, .unset, .unset, .unset, .unset, .unset] [(.ref b54), (.int (7 : Int32)), (.ref b14)])) _
    refine st58 _ ?_
    show Steps p.tables e below (T58.setTop (mkF m 123 #[.val (.int p1), .val (.int p2), .val (.int p3), .val (.int p4), .val (.int p5), .val (.int v5), .val (.int v11), .val (.int v13), .val (.ref b14), .unset, .unset, .unset, .unset, .unset, .unset] [])) _
    refine XS.iload X58.here hx rfl (hb hby at_123) rfl ?_
    exact ktx
  by_cases hc60_125 : v11 = (0 : Int32)
  · obtain ⟨v61, hv_v61⟩ : ∃ z : Int32, z = (p3 &&& (3 : Int32)) := ⟨_, rfl⟩
    obtain ⟨v62, hv_v62⟩ : ∃ z : Int32, z = ((1 : Int32) + (p4 &&& (3 : Int32))) := ⟨_, rfl⟩
    have go63 : own_go p e below (s₁.setTop (entryFrame m #[(.int p1), (.int p2), (.int p3), (.int p4), (.int p5)] maxLocals)) (T58.setTop (mkF m 150 #[.val (.int p1), .val (.int p2), .val (.int p3), .val (.int p4), .val (.int p5), .val (.int v5), .val (.int v11), .val (.int v13), .val (.ref b14), .val (.int v61), .val (.int v62), .unset, .unset, .unset, .unset] [(.int (2147483647 : Int32)), (.int p5)])) := by
      intro ttx ktx
      refine go59 ttx ?_
      show Steps p.tables e below (T58.setTop (mkF m 125 #[.val (.int p1), .val (.int p2), .val (.int p3), .val (.int p4), .val (.int p5), .val (.int v5), .val (.int v11), .val (.int v13), .val (.ref b14), .unset, .unset, .unset, .unset, .unset, .unset] [(.int v11)])) _
      refine XS.ifYes X58.here hx rfl (pc0 := 125) (pc' := 134) rfl (hb hby at_125) rfl ((if0 _ _).trans (teq hc60_125).1) (by decide) (by decide) ?_
      show Steps p.tables e below (T58.setTop (mkF m 134 #[.val (.int p1), .val (.int p2), .val (.int p3), .val (.int p4), .val (.int p5), .val (.int v5), .val (.int v11), .val (.int v13), .val (.ref b14), .unset, .unset, .unset, .unset, .unset, .unset] [])) _
      refine XS.iloadN X58.here hx rfl (hb hby at_134) rfl ?_
      show Steps p.tables e below (T58.setTop (mkF m 135 #[.val (.int p1), .val (.int p2), .val (.int p3), .val (.int p4), .val (.int p5), .val (.int v5), .val (.int v11), .val (.int v13), .val (.ref b14), .unset, .unset, .unset, .unset, .unset, .unset] [(.int p3)])) _
      refine XS.iconst X58.here hx rfl (hb hby at_135) ?_
      show Steps p.tables e below (T58.setTop (mkF m 136 #[.val (.int p1), .val (.int p2), .val (.int p3), .val (.int p4), .val (.int p5), .val (.int v5), .val (.int v11), .val (.int v13), .val (.ref b14), .unset, .unset, .unset, .unset, .unset, .unset] [(.int (3 : Int32)), (.int p3)])) _
      refine XS.iand X58.here hx rfl (hb hby at_136) rfl ?_
      show Steps p.tables e below (T58.setTop (mkF m 137 #[.val (.int p1), .val (.int p2), .val (.int p3), .val (.int p4), .val (.int p5), .val (.int v5), .val (.int v11), .val (.int v13), .val (.ref b14), .unset, .unset, .unset, .unset, .unset, .unset] [(.int (p3 &&& (3 : Int32)))])) _
      rw [← hv_v61]
      show Steps p.tables e below (T58.setTop (mkF m 137 #[.val (.int p1), .val (.int p2), .val (.int p3), .val (.int p4), .val (.int p5), .val (.int v5), .val (.int v11), .val (.int v13), .val (.ref b14), .unset, .unset, .unset, .unset, .unset, .unset] [(.int v61)])) _
      refine XS.istore X58.here hx rfl (hb hby at_137) rfl (l' := #[.val (.int p1), .val (.int p2), .val (.int p3), .val (.int p4), .val (.int p5), .val (.int v5), .val (.int v11), .val (.int v13), .val (.ref b14), .val (.int v61), .unset, .unset, .unset, .unset, .unset]) rfl ?_
      show Steps p.tables e below (T58.setTop (mkF m 139 #[.val (.int p1), .val (.int p2), .val (.int p3), .val (.int p4), .val (.int p5), .val (.int v5), .val (.int v11), .val (.int v13), .val (.ref b14), .val (.int v61), .unset, .unset, .unset, .unset, .unset] [])) _
      refine XS.iconst X58.here hx rfl (hb hby at_139) ?_
      show Steps p.tables e below (T58.setTop (mkF m 140 #[.val (.int p1), .val (.int p2), .val (.int p3), .val (.int p4), .val (.int p5), .val (.int v5), .val (.int v11), .val (.int v13), .val (.ref b14), .val (.int v61), .unset, .unset, .unset, .unset, .unset] [(.int (1 : Int32))])) _
      refine XS.iloadN X58.here hx rfl (hb hby at_140) rfl ?_
      show Steps p.tables e below (T58.setTop (mkF m 141 #[.val (.int p1), .val (.int p2), .val (.int p3), .val (.int p4), .val (.int p5), .val (.int v5), .val (.int v11), .val (.int v13), .val (.ref b14), .val (.int v61), .unset, .unset, .unset, .unset, .unset] [(.int p4), (.int (1 : Int32))])) _
      refine XS.iconst X58.here hx rfl (hb hby at_141) ?_
      show Steps p.tables e below (T58.setTop (mkF m 142 #[.val (.int p1), .val (.int p2), .val (.int p3), .val (.int p4), .val (.int p5), .val (.int v5), .val (.int v11), .val (.int v13), .val (.ref b14), .val (.int v61), .unset, .unset, .unset, .unset, .unset] [(.int (3 : Int32)), (.int p4), (.int (1 : Int32))])) _
      refine XS.iand X58.here hx rfl (hb hby at_142) rfl ?_
      show Steps p.tables e below (T58.setTop (mkF m 143 #[.val (.int p1), .val (.int p2), .val (.int p3), .val (.int p4), .val (.int p5), .val (.int v5), .val (.int v11), .val (.int v13), .val (.ref b14), .val (.int v61), .unset, .unset, .unset, .unset, .unset] [(.int (p4 &&& (3 : Int32))), (.int (1 : Int32))])) _
      refine XS.iadd X58.here hx rfl (hb hby at_143) rfl ?_
      show Steps p.tables e below (T58.setTop (mkF m 144 #[.val (.int p1), .val (.int p2), .val (.int p3), .val (.int p4), .val (.int p5), .val (.int v5), .val (.int v11), .val (.int v13), .val (.ref b14), .val (.int v61), .unset, .unset, .unset, .unset, .unset] [(.int ((1 : Int32) + (p4 &&& (3 : Int32))))])) _
      rw [← hv_v62]
      show Steps p.tables e below (T58.setTop (mkF m 144 #[.val (.int p1), .val (.int p2), .val (.int p3), .val (.int p4), .val (.int p5), .val (.int v5), .val (.int v11), .val (.int v13), .val (.ref b14), .val (.int v61), .unset, .unset, .unset, .unset, .unset] [(.int v62)])) _
      refine XS.istore X58.here hx rfl (hb hby at_144) rfl (l' := #[.val (.int p1), .val (.int p2), .val (.int p3), .val (.int p4), .val (.int p5), .val (.int v5), .val (.int v11), .val (.int v13), .val (.ref b14), .val (.int v61), .val (.int v62), .unset, .unset, .unset, .unset]) rfl ?_
      show Steps p.tables e below (T58.setTop (mkF m 146 #[.val (.int p1), .val (.int p2), .val (.int p3), .val (.int p4), .val (.int p5), .val (.int v5), .val (.int v11), .val (.int v13), .val (.ref b14), .val (.int v61), .val (.int v62), .unset, .unset, .unset, .unset] [])) _
      refine XS.iload X58.here hx rfl (hb hby at_146) rfl ?_
      show Steps p.tables e below (T58.setTop (mkF m 148 #[.val (.int p1), .val (.int p2), .val (.int p3), .val (.int p4), .val (.int p5), .val (.int v5), .val (.int v11), .val (.int v13), .val (.ref b14), .val (.int v61), .val (.int v62), .unset, .unset, .unset, .unset] [(.int p5)])) _
      refine X58.ldcInt hx hown (mvT hZ (hw _ (List.mem_of_getElem? (i := 10) rfl))) (g := (mkF m 148 #[.val (.int p1), .val (.int p2), .val (.int p3), .val (.int p4), .val (.int p5), .val (.int v5), .val (.int v11), .val (.int v13), .val (.ref b14), .val (.int v61), .val (.int v62), .unset, .unset, .unset, .unset] [(.int p5)])) rfl (hb hby at_148) _ ?_
      exact ktx
    obtain ⟨v64, hv_v64⟩ : ∃ z : Int32, z = ((p5 &&& (2147483647 : Int32)) % v62) := ⟨_, rfl⟩
    obtain ⟨T65, h65, X65, e65, E65, A65, D65, -, st65⟩ := newO X58 hx hZ hown (hw _ (List.mem_of_getElem? (i := 11) rfl)) (hw _ (List.mem_of_getElem? (i := 12) rfl)) (hw _ (List.mem_of_getElem? (i := 13) rfl)) e58 (g := (mkF m 156 #[.val (.int p1), .val (.int p2), .val (.int p3), .val (.int p4), .val (.int p5), .val (.int v5), .val (.int v11), .val (.int v13), .val (.ref b14), .val (.int v61), .val (.int v62), .val (.int v64), .unset, .unset, .unset] [])) rfl (hb hby at_156) (by decide) (by decide)
    obtain ⟨b65, g65⟩ : ∃ z, z = h58.size := ⟨_, rfl⟩
    rw [← g65] at A65 D65 st65
    have ne66 : b14 ≠ b65 := Nat.ne_of_lt (Nat.lt_of_lt_of_le V58.lt (Nat.le_of_eq g65.symm))
    have f68 := (((((((((((((((Eq15.wr W20).keep Kq21).wr W25).keep Kq26).wr W30).keep Kq32).wr W36).keep Kq37).wr W41).keep Kq43).wr W47).keep Kq48).wr W52).keep Kq54).wr W58)
    have ne67 : b15 ≠ b65 := Nat.ne_of_lt (Nat.lt_of_lt_of_le f68.lt (Nat.le_of_eq g65.symm))
    have f70 := (((((((((((((Eq21.wr W25).keep Kq26).wr W30).keep Kq32).wr W36).keep Kq37).wr W41).keep Kq43).wr W47).keep Kq48).wr W52).keep Kq54).wr W58)
    have ne69 : b21 ≠ b65 := Nat.ne_of_lt (Nat.lt_of_lt_of_le f70.lt (Nat.le_of_eq g65.symm))
    have f72 := (((((((((((Eq26.wr W30).keep Kq32).wr W36).keep Kq37).wr W41).keep Kq43).wr W47).keep Kq48).wr W52).keep Kq54).wr W58)
    have ne71 : b26 ≠ b65 := Nat.ne_of_lt (Nat.lt_of_lt_of_le f72.lt (Nat.le_of_eq g65.symm))
    have f74 := (((((((((Eq32.wr W36).keep Kq37).wr W41).keep Kq43).wr W47).keep Kq48).wr W52).keep Kq54).wr W58)
    have ne73 : b32 ≠ b65 := Nat.ne_of_lt (Nat.lt_of_lt_of_le f74.lt (Nat.le_of_eq g65.symm))
    have f76 := (((((((Eq37.wr W41).keep Kq43).wr W47).keep Kq48).wr W52).keep Kq54).wr W58)
    have ne75 : b37 ≠ b65 := Nat.ne_of_lt (Nat.lt_of_lt_of_le f76.lt (Nat.le_of_eq g65.symm))
    have f78 := (((((Eq43.wr W47).keep Kq48).wr W52).keep Kq54).wr W58)
    have ne77 : b43 ≠ b65 := Nat.ne_of_lt (Nat.lt_of_lt_of_le f78.lt (Nat.le_of_eq g65.symm))
    have f80 := (((Eq48.wr W52).keep Kq54).wr W58)
    have ne79 : b48 ≠ b65 := Nat.ne_of_lt (Nat.lt_of_lt_of_le f80.lt (Nat.le_of_eq g65.symm))
    have f82 := (Eq54.wr W58)
    have ne81 : b54 ≠ b65 := Nat.ne_of_lt (Nat.lt_of_lt_of_le f82.lt (Nat.le_of_eq g65.symm))
    have g_b65 : n0 ≤ b65 := Nat.le_trans Z58 (Nat.le_of_eq g65.symm)
    have Z65 : n0 ≤ h65.size := Nat.le_trans Z58 E65.1
    have O65 := O58.ext E65
    have F65_firsts : Fld Z h65 b65 "com/example/wilt/wilt/core/ExpirySlots$Run" "firsts" "[Ljava/lang/Object;" .null := D65 (Or.inl (hw _ (List.mem_of_getElem? (i := 21) rfl))) (ty := (.array (.object "java/lang/Object"))) (by decide)
    have F65_from : Fld Z h65 b65 "com/example/wilt/wilt/core/ExpirySlots$Run" "from" "I" (.int (0 : Int32)) := D65 (Or.inl (hw _ (List.mem_of_getElem? (i := 23) rfl))) (ty := .int) (by decide)
    have F65_size : Fld Z h65 b65 "com/example/wilt/wilt/core/ExpirySlots$Run" "size" "I" (.int (0 : Int32)) := D65 (Or.inl (hw _ (List.mem_of_getElem? (i := 25) rfl))) (ty := .int) (by decide)
    obtain ⟨_, _, ⟨T83, L83, k83, n83⟩, -, X83, ⟨Lc83, hQ83, l83, y83, z83⟩, st83⟩ := X65.specialBack hx (y := (⟨"com/example/wilt/wilt/core/ExpirySlots$Run", "<init>", "()V"⟩ : MethodName)) rfl hown (mvT hZ (hw _ (List.mem_of_getElem? (i := 14) rfl))) (mvT hZ (hw _ (List.mem_of_getElem? (i := 15) rfl))) (mvT hZ (hw _ (List.mem_of_getElem? (i := 16) rfl))) (by decide) (backOf (W := 1) (rm2 l Z a0 hw [] b65  h65 n0 Z65 ) hZ (hw _ (List.mem_of_getElem? (i := 16) rfl)) (hw _ (List.mem_of_getElem? (i := 13) rfl)) (by decide) (by decide)) (g := (mkF m 160 #[.val (.int p1), .val (.int p2), .val (.int p3), .val (.int p4), .val (.int p5), .val (.int v5), .val (.int v11), .val (.int v13), .val (.ref b14), .val (.int v61), .val (.int v62), .val (.int v64), .unset, .unset, .unset] [(.ref b65), (.ref b65)])) rfl (by rw [hml]; rfl) (Steps.refl _) (a := b65) (argsL := []) (rest := [(.ref b65)]) (lenOf own_pd0 rfl) rfl (by show 2 * 0 + _ ≤ _; exact Nat.le_of_eq rfl) (hb hby at_160) (fun _ _ => ⟨rfl, e65, (by decide : 10 + 0 ≤ _), (by decide : 25 + 0 ≤ _)⟩)
    dsimp only [Pt.U, Pt.locs, Pt.cells, Pt.slots] at X83 l83 y83 z83 st83 hQ83
    rw [l83, y83, z83] at X83
    obtain ⟨rfl, Nq83, e83⟩ := hQ83
    have N83 := Fr.app N58 Nq83
    have go84 : own_go p e below (s₁.setTop (entryFrame m #[(.int p1), (.int p2), (.int p3), (.int p4), (.int p5)] maxLocals)) (T83.setTop (mkF m 169 #[.val (.int p1), .val (.int p2), .val (.int p3), .val (.int p4), .val (.int p5), .val (.int v5), .val (.int v11), .val (.int v13), .val (.ref b14), .val (.int v61), .val (.int v62), .val (.int v64), .val (.ref b65), .unset, .unset] [(.int v5), (.ref b65)])) := by
      intro ttx ktx
      refine go63 ttx ?_
      show Steps p.tables e below (T58.setTop (mkF m 150 #[.val (.int p1), .val (.int p2), .val (.int p3), .val (.int p4), .val (.int p5), .val (.int v5), .val (.int v11), .val (.int v13), .val (.ref b14), .val (.int v61), .val (.int v62), .unset, .unset, .unset, .unset] [(.int (2147483647 : Int32)), (.int p5)])) _
      refine XS.iand X58.here hx rfl (hb hby at_150) rfl ?_
      show Steps p.tables e below (T58.setTop (mkF m 151 #[.val (.int p1), .val (.int p2), .val (.int p3), .val (.int p4), .val (.int p5), .val (.int v5), .val (.int v11), .val (.int v13), .val (.ref b14), .val (.int v61), .val (.int v62), .unset, .unset, .unset, .unset] [(.int (p5 &&& (2147483647 : Int32)))])) _
      refine XS.iload X58.here hx rfl (hb hby at_151) rfl ?_
      show Steps p.tables e below (T58.setTop (mkF m 153 #[.val (.int p1), .val (.int p2), .val (.int p3), .val (.int p4), .val (.int p5), .val (.int v5), .val (.int v11), .val (.int v13), .val (.ref b14), .val (.int v61), .val (.int v62), .unset, .unset, .unset, .unset] [(.int v62), (.int (p5 &&& (2147483647 : Int32)))])) _
      refine iremM X58 hx rfl (hb hby at_153) rfl (by rw [hv_v62]; exact (own_sz _).1) ?_
      show Steps p.tables e below (T58.setTop (mkF m 154 #[.val (.int p1), .val (.int p2), .val (.int p3), .val (.int p4), .val (.int p5), .val (.int v5), .val (.int v11), .val (.int v13), .val (.ref b14), .val (.int v61), .val (.int v62), .unset, .unset, .unset, .unset] [(.int ((p5 &&& (2147483647 : Int32)) % v62))])) _
      rw [← hv_v64]
      show Steps p.tables e below (T58.setTop (mkF m 154 #[.val (.int p1), .val (.int p2), .val (.int p3), .val (.int p4), .val (.int p5), .val (.int v5), .val (.int v11), .val (.int v13), .val (.ref b14), .val (.int v61), .val (.int v62), .unset, .unset, .unset, .unset] [(.int v64)])) _
      refine XS.istore X58.here hx rfl (hb hby at_154) rfl (l' := #[.val (.int p1), .val (.int p2), .val (.int p3), .val (.int p4), .val (.int p5), .val (.int v5), .val (.int v11), .val (.int v13), .val (.ref b14), .val (.int v61), .val (.int v62), .val (.int v64), .unset, .unset, .unset]) rfl ?_
      show Steps p.tables e below (T58.setTop (mkF m 156 #[.val (.int p1), .val (.int p2), .val (.int p3), .val (.int p4), .val (.int p5), .val (.int v5), .val (.int v11), .val (.int v13), .val (.ref b14), .val (.int v61), .val (.int v62), .val (.int v64), .unset, .unset, .unset] [])) _
      refine st65 _ ?_
      show Steps p.tables e below (T65.setTop (mkF m 159 #[.val (.int p1), .val (.int p2), .val (.int p3), .val (.int p4), .val (.int p5), .val (.int v5), .val (.int v11), .val (.int v13), .val (.ref b14), .val (.int v61), .val (.int v62), .val (.int v64), .unset, .unset, .unset] [(.ref b65)])) _
      refine XS.dup X65.here hx rfl (hb hby at_159) rfl rfl ?_
      show Steps p.tables e below (T65.setTop (mkF m 160 #[.val (.int p1), .val (.int p2), .val (.int p3), .val (.int p4), .val (.int p5), .val (.int v5), .val (.int v11), .val (.int v13), .val (.ref b14), .val (.int v61), .val (.int v62), .val (.int v64), .unset, .unset, .unset] [(.ref b65), (.ref b65)])) _
      refine st83.trans ?_
      show Steps p.tables e below (T83.setTop (mkF m 163 #[.val (.int p1), .val (.int p2), .val (.int p3), .val (.int p4), .val (.int p5), .val (.int v5), .val (.int v11), .val (.int v13), .val (.ref b14), .val (.int v61), .val (.int v62), .val (.int v64), .unset, .unset, .unset] [(.ref b65)])) _
      refine XS.astore X83.here hx rfl (hb hby at_163) rfl rfl (l' := #[.val (.int p1), .val (.int p2), .val (.int p3), .val (.int p4), .val (.int p5), .val (.int v5), .val (.int v11), .val (.int v13), .val (.ref b14), .val (.int v61), .val (.int v62), .val (.int v64), .val (.ref b65), .unset, .unset]) rfl ?_
      show Steps p.tables e below (T83.setTop (mkF m 165 #[.val (.int p1), .val (.int p2), .val (.int p3), .val (.int p4), .val (.int p5), .val (.int v5), .val (.int v11), .val (.int v13), .val (.ref b14), .val (.int v61), .val (.int v62), .val (.int v64), .val (.ref b65), .unset, .unset] [])) _
      refine XS.aload X83.here hx rfl (hb hby at_165) rfl rfl ?_
      show Steps p.tables e below (T83.setTop (mkF m 167 #[.val (.int p1), .val (.int p2), .val (.int p3), .val (.int p4), .val (.int p5), .val (.int v5), .val (.int v11), .val (.int v13), .val (.ref b14), .val (.int v61), .val (.int v62), .val (.int v64), .val (.ref b65), .unset, .unset] [(.ref b65)])) _
      refine XS.iload X83.here hx rfl (hb hby at_167) rfl ?_
      exact ktx
    by_cases hc85_169 : v5 = (0 : Int32)
    · obtain ⟨T86, h86, X86, e86, W86, st86⟩ := putF X83 hx hZ hown (host := "") (Or.inl (hw _ (List.mem_of_getElem? (i := 20) rfl))) Via.refl e83 F65_firsts A65 (Or.inl (hw _ (List.mem_of_getElem? (i := 21) rfl))) (hw _ (List.mem_of_getElem? (i := 12) rfl)) (ty := (.array (.object "java/lang/Object"))) (by decide) rfl rfl (g := (mkF m 178 #[.val (.int p1), .val (.int p2), .val (.int p3), .val (.int p4), .val (.int p5), .val (.int v5), .val (.int v11), .val (.int v13), .val (.ref b14), .val (.int v61), .val (.int v62), .val (.int v64), .val (.ref b65), .unset, .unset] [(.ref b14), (.ref b65)])) rfl rfl (hb hby at_178)
      have Z86 : n0 ≤ h86.size := Nat.le_trans Z65 (Nat.le_of_eq W86.size.symm)
      have O86 := O65.wr W86 g_b65
      have N86 := Fr.snoc X86 N83 g_b65
      have Fw86 := F65_firsts.same W86
      have f87 := (F65_from.other W86 (Or.inr (slot_ne (Or.inl (hw _ (List.mem_of_getElem? (i := 23) rfl))) (Or.inl (hw _ (List.mem_of_getElem? (i := 21) rfl))) (by decide) (t := .int) (t' := (.array (.object "java/lang/Object"))) (by decide) (by decide))))
      have f88 := (A65.wr W86)
      obtain ⟨T89, h89, X89, e89, W89, st89⟩ := putF X86 hx hZ hown (host := "") (Or.inl (hw _ (List.mem_of_getElem? (i := 22) rfl))) Via.refl e86 f87 f88 (Or.inl (hw _ (List.mem_of_getElem? (i := 23) rfl))) (hw _ (List.mem_of_getElem? (i := 12) rfl)) (ty := .int) (by decide) rfl rfl (g := (mkF m 185 #[.val (.int p1), .val (.int p2), .val (.int p3), .val (.int p4), .val (.int p5), .val (.int v5), .val (.int v11), .val (.int v13), .val (.ref b14), .val (.int v61), .val (.int v62), .val (.int v64), .val (.ref b65), .unset, .unset] [(.int v61), (.ref b65)])) rfl rfl (hb hby at_185)
      have Z89 : n0 ≤ h89.size := Nat.le_trans Z86 (Nat.le_of_eq W89.size.symm)
      have O89 := O86.wr W89 g_b65
      have N89 := Fr.snoc X89 N86 g_b65
      have Fw89 := f87.same W89
      have f90 := ((F65_size.other W86 (Or.inr (slot_ne (Or.inl (hw _ (List.mem_of_getElem? (i := 25) rfl))) (Or.inl (hw _ (List.mem_of_getElem? (i := 21) rfl))) (by decide) (t := .int) (t' := (.array (.object "java/lang/Object"))) (by decide) (by decide)))).other W89 (Or.inr (slot_ne (Or.inl (hw _ (List.mem_of_getElem? (i := 25) rfl))) (Or.inl (hw _ (List.mem_of_getElem? (i := 23) rfl))) (by decide) (t := .int) (t' := .int) (by decide) (by decide))))
      have f91 := (f88.wr W89)
      obtain ⟨T92, h92, X92, e92, W92, st92⟩ := putF X89 hx hZ hown (host := "") (Or.inl (hw _ (List.mem_of_getElem? (i := 24) rfl))) Via.refl e89 f90 f91 (Or.inl (hw _ (List.mem_of_getElem? (i := 25) rfl))) (hw _ (List.mem_of_getElem? (i := 12) rfl)) (ty := .int) (by decide) rfl rfl (g := (mkF m 192 #[.val (.int p1), .val (.int p2), .val (.int p3), .val (.int p4), .val (.int p5), .val (.int v5), .val (.int v11), .val (.int v13), .val (.ref b14), .val (.int v61), .val (.int v62), .val (.int v64), .val (.ref b65), .unset, .unset] [(.int v62), (.ref b65)])) rfl rfl (hb hby at_192)
      have Z92 : n0 ≤ h92.size := Nat.le_trans Z89 (Nat.le_of_eq W92.size.symm)
      have O92 := O89.wr W92 g_b65
      have N92 := Fr.snoc X92 N89 g_b65
      have Fw92 := f90.same W92
      have go93 : own_go p e below (s₁.setTop (entryFrame m #[(.int p1), (.int p2), (.int p3), (.int p4), (.int p5)] maxLocals)) (T92.setTop (mkF m 199 #[.val (.int p1), .val (.int p2), .val (.int p3), .val (.int p4), .val (.int p5), .val (.int v5), .val (.int v11), .val (.int v13), .val (.ref b14), .val (.int v61), .val (.int v62), .val (.int v64), .val (.ref b65), .unset, .unset] [(.int v64), (.ref b65)])) := by
        intro ttx ktx
        refine go84 ttx ?_
        show Steps p.tables e below (T83.setTop (mkF m 169 #[.val (.int p1), .val (.int p2), .val (.int p3), .val (.int p4), .val (.int p5), .val (.int v5), .val (.int v11), .val (.int v13), .val (.ref b14), .val (.int v61), .val (.int v62), .val (.int v64), .val (.ref b65), .unset, .unset] [(.int v5), (.ref b65)])) _
        refine XS.ifYes X83.here hx rfl (pc0 := 169) (pc' := 176) rfl (hb hby at_169) rfl ((if0 _ _).trans (teq hc85_169).1) (by decide) (by decide) ?_
        show Steps p.tables e below (T83.setTop (mkF m 176 #[.val (.int p1), .val (.int p2), .val (.int p3), .val (.int p4), .val (.int p5), .val (.int v5), .val (.int v11), .val (.int v13), .val (.ref b14), .val (.int v61), .val (.int v62), .val (.int v64), .val (.ref b65), .unset, .unset] [(.ref b65)])) _
        refine XS.aload X83.here hx rfl (hb hby at_176) rfl rfl ?_
        show Steps p.tables e below (T83.setTop (mkF m 178 #[.val (.int p1), .val (.int p2), .val (.int p3), .val (.int p4), .val (.int p5), .val (.int v5), .val (.int v11), .val (.int v13), .val (.ref b14), .val (.int v61), .val (.int v62), .val (.int v64), .val (.ref b65), .unset, .unset] [(.ref b14), (.ref b65)])) _
        refine st86 _ ?_
        show Steps p.tables e below (T86.setTop (mkF m 181 #[.val (.int p1), .val (.int p2), .val (.int p3), .val (.int p4), .val (.int p5), .val (.int v5), .val (.int v11), .val (.int v13), .val (.ref b14), .val (.int v61), .val (.int v62), .val (.int v64), .val (.ref b65), .unset, .unset] [])) _
        refine XS.aload X86.here hx rfl (hb hby at_181) rfl rfl ?_
        show Steps p.tables e below (T86.setTop (mkF m 183 #[.val (.int p1), .val (.int p2), .val (.int p3), .val (.int p4), .val (.int p5), .val (.int v5), .val (.int v11), .val (.int v13), .val (.ref b14), .val (.int v61), .val (.int v62), .val (.int v64), .val (.ref b65), .unset, .unset] [(.ref b65)])) _
        refine XS.iload X86.here hx rfl (hb hby at_183) rfl ?_
        show Steps p.tables e below (T86.setTop (mkF m 185 #[.val (.int p1), .val (.int p2), .val (.int p3), .val (.int p4), .val (.int p5), .val (.int v5), .val (.int v11), .val (.int v13), .val (.ref b14), .val (.int v61), .val (.int v62), .val (.int v64), .val (.ref b65), .unset, .unset] [(.int v61), (.ref b65)])) _
        refine st89 _ ?_
        show Steps p.tables e below (T89.setTop (mkF m 188 #[.val (.int p1), .val (.int p2), .val (.int p3), .val (.int p4), .val (.int p5), .val (.int v5), .val (.int v11), .val (.int v13), .val (.ref b14), .val (.int v61), .val (.int v62), .val (.int v64), .val (.ref b65), .unset, .unset] [])) _
        refine XS.aload X89.here hx rfl (hb hby at_188) rfl rfl ?_
        show Steps p.tables e below (T89.setTop (mkF m 190 #[.val (.int p1), .val (.int p2), .val (.int p3), .val (.int p4), .val (.int p5), .val (.int v5), .val (.int v11), .val (.int v13), .val (.ref b14), .val (.int v61), .val (.int v62), .val (.int v64), .val (.ref b65), .unset, .unset] [(.ref b65)])) _
        refine XS.iload X89.here hx rfl (hb hby at_190) rfl ?_
        show Steps p.tables e below (T89.setTop (mkF m 192 #[.val (.int p1), .val (.int p2), .val (.int p3), .val (.int p4), .val (.int p5), .val (.int v5), .val (.int v11), .val (.int v13), .val (.ref b14), .val (.int v61), .val (.int v62), .val (.int v64), .val (.ref b65), .unset, .unset] [(.int v62), (.ref b65)])) _
        refine st92 _ ?_
        show Steps p.tables e below (T92.setTop (mkF m 195 #[.val (.int p1), .val (.int p2), .val (.int p3), .val (.int p4), .val (.int p5), .val (.int v5), .val (.int v11), .val (.int v13), .val (.ref b14), .val (.int v61), .val (.int v62), .val (.int v64), .val (.ref b65), .unset, .unset] [])) _
        refine XS.aload X92.here hx rfl (hb hby at_195) rfl rfl ?_
        show Steps p.tables e below (T92.setTop (mkF m 197 #[.val (.int p1), .val (.int p2), .val (.int p3), .val (.int p4), .val (.int p5), .val (.int v5), .val (.int v11), .val (.int v13), .val (.ref b14), .val (.int v61), .val (.int v62), .val (.int v64), .val (.ref b65), .unset, .unset] [(.ref b65)])) _
        refine XS.iload X92.here hx rfl (hb hby at_197) rfl ?_
        exact ktx
      have hjj : ¬ (v61 + v64) < 0 ∧ (v61 + v64) < (8 : Int32) := by rw [hv_v61, hv_v64, hv_v62]; exact own_bd _ _ _
      have f94 := ((((f68.ext E65).wr W86).wr W89).wr W92)
      have f95 := ((((f70.ext E65).wr W86).wr W89).wr W92)
      have f96 := ((((f72.ext E65).wr W86).wr W89).wr W92)
      have f97 := ((((f74.ext E65).wr W86).wr W89).wr W92)
      have f98 := ((((f76.ext E65).wr W86).wr W89).wr W92)
      have f99 := ((((f78.ext E65).wr W86).wr W89).wr W92)
      have f100 := ((((f80.ext E65).wr W86).wr W89).wr W92)
      have f101 := ((((f82.ext E65).wr W86).wr W89).wr W92)
      have f102 := (((((((((((((((((((Fq15.other W20 (Or.inl ne16)).keep Kq21 nin0).other W25 (Or.inl ne16)).keep Kq26 nin0).other W30 (Or.inl ne16)).keep Kq32 nin0).other W36 (Or.inl ne16)).keep Kq37 nin0).other W41 (Or.inl ne16)).keep Kq43 nin0).other W47 (Or.inl ne16)).keep Kq48 nin0).other W52 (Or.inl ne16)).keep Kq54 nin0).other W58 (Or.inl ne16)).ext E65).other W86 (Or.inl ne67)).other W89 (Or.inl ne67)).other W92 (Or.inl ne67))
      have f103 := (((((((((((((((((Fq21.other W25 (Or.inl ne22)).keep Kq26 nin0).other W30 (Or.inl ne22)).keep Kq32 nin0).other W36 (Or.inl ne22)).keep Kq37 nin0).other W41 (Or.inl ne22)).keep Kq43 nin0).other W47 (Or.inl ne22)).keep Kq48 nin0).other W52 (Or.inl ne22)).keep Kq54 nin0).other W58 (Or.inl ne22)).ext E65).other W86 (Or.inl ne69)).other W89 (Or.inl ne69)).other W92 (Or.inl ne69))
      have f104 := (((((((((((((((Fq26.other W30 (Or.inl ne27)).keep Kq32 nin0).other W36 (Or.inl ne27)).keep Kq37 nin0).other W41 (Or.inl ne27)).keep Kq43 nin0).other W47 (Or.inl ne27)).keep Kq48 nin0).other W52 (Or.inl ne27)).keep Kq54 nin0).other W58 (Or.inl ne27)).ext E65).other W86 (Or.inl ne71)).other W89 (Or.inl ne71)).other W92 (Or.inl ne71))
      have f105 := (((((((((((((Fq32.other W36 (Or.inl ne33)).keep Kq37 nin0).other W41 (Or.inl ne33)).keep Kq43 nin0).other W47 (Or.inl ne33)).keep Kq48 nin0).other W52 (Or.inl ne33)).keep Kq54 nin0).other W58 (Or.inl ne33)).ext E65).other W86 (Or.inl ne73)).other W89 (Or.inl ne73)).other W92 (Or.inl ne73))
      have f106 := (((((((((((Fq37.other W41 (Or.inl ne38)).keep Kq43 nin0).other W47 (Or.inl ne38)).keep Kq48 nin0).other W52 (Or.inl ne38)).keep Kq54 nin0).other W58 (Or.inl ne38)).ext E65).other W86 (Or.inl ne75)).other W89 (Or.inl ne75)).other W92 (Or.inl ne75))
      have f107 := (((((((((Fq43.other W47 (Or.inl ne44)).keep Kq48 nin0).other W52 (Or.inl ne44)).keep Kq54 nin0).other W58 (Or.inl ne44)).ext E65).other W86 (Or.inl ne77)).other W89 (Or.inl ne77)).other W92 (Or.inl ne77))
      have f108 := (((((((Fq48.other W52 (Or.inl ne49)).keep Kq54 nin0).other W58 (Or.inl ne49)).ext E65).other W86 (Or.inl ne79)).other W89 (Or.inl ne79)).other W92 (Or.inl ne79))
      have f109 := (((((Fq54.other W58 (Or.inl ne55)).ext E65).other W86 (Or.inl ne81)).other W89 (Or.inl ne81)).other W92 (Or.inl ne81))
      obtain ⟨bx, hbx, Ebx, Fbx⟩ : ∃ bx : Addr, ([(.ref b15), (.ref b21), (.ref b26), (.ref b32), (.ref b37), (.ref b43), (.ref b48), (.ref b54)] : List Value).getD (v61 + v64).toNatClampNeg .null = .ref bx ∧ Exa Z h92 bx "java/lang/Integer" ∧ Fld Z h92 bx "java/lang/Integer" "value" "I" (.int (p2 + (v61 + v64))) := by
        generalize (v61 + v64) = jj at hjj ⊢
        rcases own_eight jj hjj.1 hjj.2 with rfl | rfl | rfl | rfl | rfl | rfl | rfl | rfl
        · exact ⟨b15, rfl, f94, by simpa using f102⟩
        · exact ⟨b21, rfl, f95, f103⟩
        · exact ⟨b26, rfl, f96, f104⟩
        · exact ⟨b32, rfl, f97, f105⟩
        · exact ⟨b37, rfl, f98, f106⟩
        · exact ⟨b43, rfl, f99, f107⟩
        · exact ⟨b48, rfl, f100, f108⟩
        · exact ⟨b54, rfl, f101, f109⟩
      have hvv := hbx
      have f111 := ((Fw86.other W89 (Or.inr (slot_ne (Or.inl (hw _ (List.mem_of_getElem? (i := 21) rfl))) (Or.inl (hw _ (List.mem_of_getElem? (i := 23) rfl))) (by decide) (t := (.array (.object "java/lang/Object"))) (t' := .int) (by decide) (by decide)))).other W92 (Or.inr (slot_ne (Or.inl (hw _ (List.mem_of_getElem? (i := 21) rfl))) (Or.inl (hw _ (List.mem_of_getElem? (i := 25) rfl))) (by decide) (t := (.array (.object "java/lang/Object"))) (t' := .int) (by decide) (by decide))))
      have f112 := (Fw89.other W92 (Or.inr (slot_ne (Or.inl (hw _ (List.mem_of_getElem? (i := 23) rfl))) (Or.inl (hw _ (List.mem_of_getElem? (i := 25) rfl))) (by decide) (t := .int) (t' := .int) (by decide) (by decide))))
      have f113 := ((((V58.ext E65).other W86 ne66).other W89 ne66).other W92 ne66)
      have f114 := (f91.wr W92)
      obtain ⟨cq110, kq110, q110a, q110b, q110c⟩ := isOf hZ e92 f114
      obtain ⟨_, _, ⟨T110, L110, k110, n110⟩, -, X110, ⟨Lc110, hQ110, l110, y110, z110⟩, st110⟩ := X92.virtualBack hx (y := (⟨"com/example/wilt/wilt/core/ExpirySlots$Run", "first", "(I)Ljava/lang/Object;"⟩ : MethodName)) (z := (⟨"com/example/wilt/wilt/core/ExpirySlots$Run", "first", "(I)Ljava/lang/Object;"⟩ : MethodName)) hown (mvT hZ (hw _ (List.mem_of_getElem? (i := 26) rfl))) (mvT hZ (hw _ (List.mem_of_getElem? (i := 27) rfl))) (notFace_of_selects (args := #[]) (mvT hZ (hw _ (List.mem_of_getElem? (i := 29) rfl)))) (mvT hZ (hw _ (List.mem_of_getElem? (i := 29) rfl))) (mvT hZ (hw _ (List.mem_of_getElem? (i := 28) rfl))) (by decide) (backOf (W := 0) (rmF1 l Z a0 hw [] b65 v64 b14 v61 k14 ([(.ref b15), (.ref b21), (.ref b26), (.ref b32), (.ref b37), (.ref b43), (.ref b48), (.ref b54)] : List Value) bx h92 n0 Z92 f111 f112 f113 hjj hvv) hZ (hw _ (List.mem_of_getElem? (i := 30) rfl)) (hw _ (List.mem_of_getElem? (i := 13) rfl)) (by decide) (by decide)) q110a q110c (g := (mkF m 199 #[.val (.int p1), .val (.int p2), .val (.int p3), .val (.int p4), .val (.int p5), .val (.int v5), .val (.int v11), .val (.int v13), .val (.ref b14), .val (.int v61), .val (.int v62), .val (.int v64), .val (.ref b65), .unset, .unset] [(.int v64), (.ref b65)])) rfl (by rw [hml]; rfl) (Steps.refl _) (argsL := [(.int v64)]) (rest := []) (lenOf own_pd3 rfl) rfl (by show 2 * 0 + _ ≤ _; exact Nat.le_of_eq rfl) (hb hby at_199) (fun _ _ => ⟨rfl, e92, (by decide : 10 + 0 ≤ _), (by decide : 25 + 0 ≤ _)⟩)
      dsimp only [Pt.U, Pt.locs, Pt.cells, Pt.slots] at X110 l110 y110 z110 st110 hQ110
      rw [l110, y110, z110] at X110
      obtain ⟨rfl, Nq110, e110⟩ := hQ110
      have N110 := Fr.app N92 Nq110
      obtain ⟨v115, hv_v115⟩ : ∃ z : Int32, z = (v61 + v64) := ⟨_, rfl⟩
      have hc116_213 : v5 = (0 : Int32) := hc85_169
      have hc117_229 : v11 = (0 : Int32) := hc60_125
      obtain ⟨T118, X118, e118, st118⟩ := instY X110 hx hZ hown (hw _ (List.mem_of_getElem? (i := 33) rfl)) e110 (Ins.self Ebx) (g := (mkF m 252 #[.val (.int p1), .val (.int p2), .val (.int p3), .val (.int p4), .val (.int p5), .val (.int v5), .val (.int v11), .val (.int v13), .val (.ref b14), .val (.int v61), .val (.int v62), .val (.int v64), .val (.ref b65), .val (.ref bx), .val (.int v115)] [(.ref bx)])) rfl rfl (hb hby at_252)
      have hc119_255 : ¬ ((1 : Int32) = (0 : Int32)) := (by decide)
      have go120 : own_go p e below (s₁.setTop (entryFrame m #[(.int p1), (.int p2), (.int p3), (.int p4), (.int p5)] maxLocals)) (T118.setTop (mkF m 262 #[.val (.int p1), .val (.int p2), .val (.int p3), .val (.int p4), .val (.int p5), .val (.int v5), .val (.int v11), .val (.int v13), .val (.ref b14), .val (.int v61), .val (.int v62), .val (.int v64), .val (.ref b65), .val (.ref bx), .val (.int v115)] [(.ref bx)])) := by
        intro ttx ktx
        refine go93 ttx ?_
        show Steps p.tables e below (T92.setTop (mkF m 199 #[.val (.int p1), .val (.int p2), .val (.int p3), .val (.int p4), .val (.int p5), .val (.int v5), .val (.int v11), .val (.int v13), .val (.ref b14), .val (.int v61), .val (.int v62), .val (.int v64), .val (.ref b65), .unset, .unset] [(.int v64), (.ref b65)])) _
        refine st110.trans ?_
        show Steps p.tables e below (T110.setTop (mkF m 202 #[.val (.int p1), .val (.int p2), .val (.int p3), .val (.int p4), .val (.int p5), .val (.int v5), .val (.int v11), .val (.int v13), .val (.ref b14), .val (.int v61), .val (.int v62), .val (.int v64), .val (.ref b65), .unset, .unset] [(.ref bx)])) _
        refine XS.astore X110.here hx rfl (hb hby at_202) rfl rfl (l' := #[.val (.int p1), .val (.int p2), .val (.int p3), .val (.int p4), .val (.int p5), .val (.int v5), .val (.int v11), .val (.int v13), .val (.ref b14), .val (.int v61), .val (.int v62), .val (.int v64), .val (.ref b65), .val (.ref bx), .unset]) rfl ?_
        show Steps p.tables e below (T110.setTop (mkF m 204 #[.val (.int p1), .val (.int p2), .val (.int p3), .val (.int p4), .val (.int p5), .val (.int v5), .val (.int v11), .val (.int v13), .val (.ref b14), .val (.int v61), .val (.int v62), .val (.int v64), .val (.ref b65), .val (.ref bx), .unset] [])) _
        refine XS.iload X110.here hx rfl (hb hby at_204) rfl ?_
        show Steps p.tables e below (T110.setTop (mkF m 206 #[.val (.int p1), .val (.int p2), .val (.int p3), .val (.int p4), .val (.int p5), .val (.int v5), .val (.int v11), .val (.int v13), .val (.ref b14), .val (.int v61), .val (.int v62), .val (.int v64), .val (.ref b65), .val (.ref bx), .unset] [(.int v61)])) _
        refine XS.iload X110.here hx rfl (hb hby at_206) rfl ?_
        show Steps p.tables e below (T110.setTop (mkF m 208 #[.val (.int p1), .val (.int p2), .val (.int p3), .val (.int p4), .val (.int p5), .val (.int v5), .val (.int v11), .val (.int v13), .val (.ref b14), .val (.int v61), .val (.int v62), .val (.int v64), .val (.ref b65), .val (.ref bx), .unset] [(.int v64), (.int v61)])) _
        refine XS.iadd X110.here hx rfl (hb hby at_208) rfl ?_
        show Steps p.tables e below (T110.setTop (mkF m 209 #[.val (.int p1), .val (.int p2), .val (.int p3), .val (.int p4), .val (.int p5), .val (.int v5), .val (.int v11), .val (.int v13), .val (.ref b14), .val (.int v61), .val (.int v62), .val (.int v64), .val (.ref b65), .val (.ref bx), .unset] [(.int (v61 + v64))])) _
        rw [← hv_v115]
        show Steps p.tables e below (T110.setTop (mkF m 209 #[.val (.int p1), .val (.int p2), .val (.int p3), .val (.int p4), .val (.int p5), .val (.int v5), .val (.int v11), .val (.int v13), .val (.ref b14), .val (.int v61), .val (.int v62), .val (.int v64), .val (.ref b65), .val (.ref bx), .unset] [(.int v115)])) _
        refine XS.istore X110.here hx rfl (hb hby at_209) rfl (l' := #[.val (.int p1), .val (.int p2), .val (.int p3), .val (.int p4), .val (.int p5), .val (.int v5), .val (.int v11), .val (.int v13), .val (.ref b14), .val (.int v61), .val (.int v62), .val (.int v64), .val (.ref b65), .val (.ref bx), .val (.int v115)]) rfl ?_
        show Steps p.tables e below (T110.setTop (mkF m 211 #[.val (.int p1), .val (.int p2), .val (.int p3), .val (.int p4), .val (.int p5), .val (.int v5), .val (.int v11), .val (.int v13), .val (.ref b14), .val (.int v61), .val (.int v62), .val (.int v64), .val (.ref b65), .val (.ref bx), .val (.int v115)] [])) _
        refine XS.iload X110.here hx rfl (hb hby at_211) rfl ?_
        show Steps p.tables e below (T110.setTop (mkF m 213 #[.val (.int p1), .val (.int p2), .val (.int p3), .val (.int p4), .val (.int p5), .val (.int v5), .val (.int v11), .val (.int v13), .val (.ref b14), .val (.int v61), .val (.int v62), .val (.int v64), .val (.ref b65), .val (.ref bx), .val (.int v115)] [(.int v5)])) _
        refine XS.ifYes X110.here hx rfl (pc0 := 213) (pc' := 227) rfl (hb hby at_213) rfl ((if0 _ _).trans (teq hc116_213).1) (by decide) (by decide) ?_
        show Steps p.tables e below (T110.setTop (mkF m 227 #[.val (.int p1), .val (.int p2), .val (.int p3), .val (.int p4), .val (.int p5), .val (.int v5), .val (.int v11), .val (.int v13), .val (.ref b14), .val (.int v61), .val (.int v62), .val (.int v64), .val (.ref b65), .val (.ref bx), .val (.int v115)] [])) _
        refine XS.iload X110.here hx rfl (hb hby at_227) rfl ?_
        show Steps p.tables e below (T110.setTop (mkF m 229 #[.val (.int p1), .val (.int p2), .val (.int p3), .val (.int p4), .val (.int p5), .val (.int v5), .val (.int v11), .val (.int v13), .val (.ref b14), .val (.int v61), .val (.int v62), .val (.int v64), .val (.ref b65), .val (.ref bx), .val (.int v115)] [(.int v11)])) _
        refine XS.ifYes X110.here hx rfl (pc0 := 229) (pc' := 250) rfl (hb hby at_229) rfl ((if0 _ _).trans (teq hc117_229).1) (by decide) (by decide) ?_
        show Steps p.tables e below (T110.setTop (mkF m 250 #[.val (.int p1), .val (.int p2), .val (.int p3), .val (.int p4), .val (.int p5), .val (.int v5), .val (.int v11), .val (.int v13), .val (.ref b14), .val (.int v61), .val (.int v62), .val (.int v64), .val (.ref b65), .val (.ref bx), .val (.int v115)] [])) _
        refine XS.aload X110.here hx rfl (hb hby at_250) rfl rfl ?_
        show Steps p.tables e below (T110.setTop (mkF m 252 #[.val (.int p1), .val (.int p2), .val (.int p3), .val (.int p4), .val (.int p5), .val (.int v5), .val (.int v11), .val (.int v13), .val (.ref b14), .val (.int v61), .val (.int v62), .val (.int v64), .val (.ref b65), .val (.ref bx), .val (.int v115)] [(.ref bx)])) _
        refine st118 _ ?_
        show Steps p.tables e below (T118.setTop (mkF m 255 #[.val (.int p1), .val (.int p2), .val (.int p3), .val (.int p4), .val (.int p5), .val (.int v5), .val (.int v11), .val (.int v13), .val (.ref b14), .val (.int v61), .val (.int v62), .val (.int v64), .val (.ref b65), .val (.ref bx), .val (.int v115)] [(.int (1 : Int32))])) _
        refine XS.ifYes X118.here hx rfl (pc0 := 255) (pc' := 260) rfl (hb hby at_255) rfl ((if0 _ _).trans (feq hc119_255).2) (by decide) (by decide) ?_
        show Steps p.tables e below (T118.setTop (mkF m 260 #[.val (.int p1), .val (.int p2), .val (.int p3), .val (.int p4), .val (.int p5), .val (.int v5), .val (.int v11), .val (.int v13), .val (.ref b14), .val (.int v61), .val (.int v62), .val (.int v64), .val (.ref b65), .val (.ref bx), .val (.int v115)] [])) _
        refine XS.aload X118.here hx rfl (hb hby at_260) rfl rfl ?_
        exact ktx
      obtain ⟨T121, X121, e121, st121⟩ := castY X118 hx hZ hown (hw _ (List.mem_of_getElem? (i := 33) rfl)) e118 (Ins.self Ebx) (g := (mkF m 262 #[.val (.int p1), .val (.int p2), .val (.int p3), .val (.int p4), .val (.int p5), .val (.int v5), .val (.int v11), .val (.int v13), .val (.ref b14), .val (.int v61), .val (.int v62), .val (.int v64), .val (.ref b65), .val (.ref bx), .val (.int v115)] [(.ref bx)])) rfl rfl (hb hby at_262)
      obtain ⟨cq122, kq122, q122a, q122b, q122c⟩ := isOf hZ e121 Ebx
      obtain ⟨_, _, ⟨T122, L122, k122, n122⟩, -, X122, ⟨Lc122, hQ122, l122, y122, z122⟩, st122⟩ := X121.virtualBack hx (y := (⟨"java/lang/Integer", "intValue", "()I"⟩ : MethodName)) (z := (⟨"java/lang/Integer", "intValue", "()I"⟩ : MethodName)) hown (mvT hZ (hw _ (List.mem_of_getElem? (i := 35) rfl))) (mvT hZ (hw _ (List.mem_of_getElem? (i := 36) rfl))) (notFace_of_selects (args := #[]) (mvT hZ (hw _ (List.mem_of_getElem? (i := 38) rfl)))) (mvT hZ (hw _ (List.mem_of_getElem? (i := 38) rfl))) (mvT hZ (hw _ (List.mem_of_getElem? (i := 37) rfl))) (by decide) (backOf (W := 0) (rm5 l Z a0 hw [] bx (p2 + (v61 + v64)) h92 n0 Z92 Fbx) hZ (hw _ (List.mem_of_getElem? (i := 39) rfl)) (hw _ (List.mem_of_getElem? (i := 4) rfl)) (by decide) (by decide)) q122a q122c (g := (mkF m 265 #[.val (.int p1), .val (.int p2), .val (.int p3), .val (.int p4), .val (.int p5), .val (.int v5), .val (.int v11), .val (.int v13), .val (.ref b14), .val (.int v61), .val (.int v62), .val (.int v64), .val (.ref b65), .val (.ref bx), .val (.int v115)] [(.ref bx)])) rfl (by rw [hml]; rfl) (Steps.refl _) (argsL := []) (rest := []) (lenOf own_pd4 rfl) rfl (by show 2 * 0 + _ ≤ _; exact Nat.le_of_eq rfl) (hb hby at_265) (fun _ _ => ⟨rfl, e121, (by decide : 10 + 0 ≤ _), (by decide : 25 + 0 ≤ _)⟩)
      dsimp only [Pt.U, Pt.locs, Pt.cells, Pt.slots] at X122 l122 y122 z122 st122 hQ122
      rw [l122, y122, z122] at X122
      obtain ⟨rfl, Nq122, e122⟩ := hQ122
      have N122 := Fr.app N110 Nq122
      have hc123_272 : (p2 + (v61 + v64)) = (p2 + v115) := by rw [hv_v115]
      have go124 : own_go p e below (s₁.setTop (entryFrame m #[(.int p1), (.int p2), (.int p3), (.int p4), (.int p5)] maxLocals)) (T122.setTop (mkF m 280 #[.val (.int p1), .val (.int p2), .val (.int p3), .val (.int p4), .val (.int p5), .val (.int v5), .val (.int v11), .val (.int v13), .val (.ref b14), .val (.int v61), .val (.int v62), .val (.int v64), .val (.ref b65), .val (.ref bx), .val (.int v115)] [(.int (1 : Int32))])) := by
        intro ttx ktx
        refine go120 ttx ?_
        show Steps p.tables e below (T118.setTop (mkF m 262 #[.val (.int p1), .val (.int p2), .val (.int p3), .val (.int p4), .val (.int p5), .val (.int v5), .val (.int v11), .val (.int v13), .val (.ref b14), .val (.int v61), .val (.int v62), .val (.int v64), .val (.ref b65), .val (.ref bx), .val (.int v115)] [(.ref bx)])) _
        refine st121 _ ?_
        show Steps p.tables e below (T121.setTop (mkF m 265 #[.val (.int p1), .val (.int p2), .val (.int p3), .val (.int p4), .val (.int p5), .val (.int v5), .val (.int v11), .val (.int v13), .val (.ref b14), .val (.int v61), .val (.int v62), .val (.int v64), .val (.ref b65), .val (.ref bx), .val (.int v115)] [(.ref bx)])) _
        refine st122.trans ?_
        show Steps p.tables e below (T122.setTop (mkF m 268 #[.val (.int p1), .val (.int p2), .val (.int p3), .val (.int p4), .val (.int p5), .val (.int v5), .val (.int v11), .val (.int v13), .val (.ref b14), .val (.int v61), .val (.int v62), .val (.int v64), .val (.ref b65), .val (.ref bx), .val (.int v115)] [(.int (p2 + (v61 + v64)))])) _
        refine XS.iloadN X122.here hx rfl (hb hby at_268) rfl ?_
        show Steps p.tables e below (T122.setTop (mkF m 269 #[.val (.int p1), .val (.int p2), .val (.int p3), .val (.int p4), .val (.int p5), .val (.int v5), .val (.int v11), .val (.int v13), .val (.ref b14), .val (.int v61), .val (.int v62), .val (.int v64), .val (.ref b65), .val (.ref bx), .val (.int v115)] [(.int p2), (.int (p2 + (v61 + v64)))])) _
        refine XS.iload X122.here hx rfl (hb hby at_269) rfl ?_
        show Steps p.tables e below (T122.setTop (mkF m 271 #[.val (.int p1), .val (.int p2), .val (.int p3), .val (.int p4), .val (.int p5), .val (.int v5), .val (.int v11), .val (.int v13), .val (.ref b14), .val (.int v61), .val (.int v62), .val (.int v64), .val (.ref b65), .val (.ref bx), .val (.int v115)] [(.int v115), (.int p2), (.int (p2 + (v61 + v64)))])) _
        refine XS.iadd X122.here hx rfl (hb hby at_271) rfl ?_
        show Steps p.tables e below (T122.setTop (mkF m 272 #[.val (.int p1), .val (.int p2), .val (.int p3), .val (.int p4), .val (.int p5), .val (.int v5), .val (.int v11), .val (.int v13), .val (.ref b14), .val (.int v61), .val (.int v62), .val (.int v64), .val (.ref b65), .val (.ref bx), .val (.int v115)] [(.int (p2 + v115)), (.int (p2 + (v61 + v64)))])) _
        refine XS.icmpNo X122.here hx rfl (hb hby at_272) rfl (teq hc123_272).2 ?_
        show Steps p.tables e below (T122.setTop (mkF m 275 #[.val (.int p1), .val (.int p2), .val (.int p3), .val (.int p4), .val (.int p5), .val (.int v5), .val (.int v11), .val (.int v13), .val (.ref b14), .val (.int v61), .val (.int v62), .val (.int v64), .val (.ref b65), .val (.ref bx), .val (.int v115)] [])) _
        refine XS.iconst X122.here hx rfl (hb hby at_275) ?_
        show Steps p.tables e below (T122.setTop (mkF m 276 #[.val (.int p1), .val (.int p2), .val (.int p3), .val (.int p4), .val (.int p5), .val (.int v5), .val (.int v11), .val (.int v13), .val (.ref b14), .val (.int v61), .val (.int v62), .val (.int v64), .val (.ref b65), .val (.ref bx), .val (.int v115)] [(.int (1 : Int32))])) _
        refine XS.goto X122.here hx rfl (pc0 := 276) (pc' := 280) rfl (hb hby at_276) (by decide) (by decide) ?_
        exact ktx
      obtain ⟨fs, hr, hrun, hended, hW, hsame⟩ := X122.leave (v := some (.int (1 : Int32))) (fun h => by rw [Bd.returns] at h; cases h)
      refine ⟨_, _, go124 _ ?_, hrun, hended, _, _, rfl, ?_, ⟨_, rfl⟩, hW, hsame.mono (by decide) (by decide)⟩
      · exact retN X122 hx (t := .boolean) Bd.returns (by simp) (hb hby at_280) hr
      · show Q0 Z p1 p2 p3 p4 p5 h0 n0 _ T122.heap _
        rw [e122]
        exact ⟨rfl, N122⟩
    · obtain ⟨T125, h125, X125, e125, W125, st125⟩ := putF X83 hx hZ hown (host := "") (Or.inl (hw _ (List.mem_of_getElem? (i := 20) rfl))) Via.refl e83 F65_firsts A65 (Or.inl (hw _ (List.mem_of_getElem? (i := 21) rfl))) (hw _ (List.mem_of_getElem? (i := 12) rfl)) (ty := (.array (.object "java/lang/Object"))) (by decide) rfl rfl (g := (mkF m 178 #[.val (.int p1), .val (.int p2), .val (.int p3), .val (.int p4), .val (.int p5), .val (.int v5), .val (.int v11), .val (.int v13), .val (.ref b14), .val (.int v61), .val (.int v62), .val (.int v64), .val (.ref b65), .unset, .unset] [.null, (.ref b65)])) rfl rfl (hb hby at_178)
      have Z125 : n0 ≤ h125.size := Nat.le_trans Z65 (Nat.le_of_eq W125.size.symm)
      have O125 := O65.wr W125 g_b65
      have N125 := Fr.snoc X125 N83 g_b65
      have Fw125 := F65_firsts.same W125
      have f126 := (F65_from.other W125 (Or.inr (slot_ne (Or.inl (hw _ (List.mem_of_getElem? (i := 23) rfl))) (Or.inl (hw _ (List.mem_of_getElem? (i := 21) rfl))) (by decide) (t := .int) (t' := (.array (.object "java/lang/Object"))) (by decide) (by decide))))
      have f127 := (A65.wr W125)
      obtain ⟨T128, h128, X128, e128, W128, st128⟩ := putF X125 hx hZ hown (host := "") (Or.inl (hw _ (List.mem_of_getElem? (i := 22) rfl))) Via.refl e125 f126 f127 (Or.inl (hw _ (List.mem_of_getElem? (i := 23) rfl))) (hw _ (List.mem_of_getElem? (i := 12) rfl)) (ty := .int) (by decide) rfl rfl (g := (mkF m 185 #[.val (.int p1), .val (.int p2), .val (.int p3), .val (.int p4), .val (.int p5), .val (.int v5), .val (.int v11), .val (.int v13), .val (.ref b14), .val (.int v61), .val (.int v62), .val (.int v64), .val (.ref b65), .unset, .unset] [(.int v61), (.ref b65)])) rfl rfl (hb hby at_185)
      have Z128 : n0 ≤ h128.size := Nat.le_trans Z125 (Nat.le_of_eq W128.size.symm)
      have O128 := O125.wr W128 g_b65
      have N128 := Fr.snoc X128 N125 g_b65
      have Fw128 := f126.same W128
      have f129 := ((F65_size.other W125 (Or.inr (slot_ne (Or.inl (hw _ (List.mem_of_getElem? (i := 25) rfl))) (Or.inl (hw _ (List.mem_of_getElem? (i := 21) rfl))) (by decide) (t := .int) (t' := (.array (.object "java/lang/Object"))) (by decide) (by decide)))).other W128 (Or.inr (slot_ne (Or.inl (hw _ (List.mem_of_getElem? (i := 25) rfl))) (Or.inl (hw _ (List.mem_of_getElem? (i := 23) rfl))) (by decide) (t := .int) (t' := .int) (by decide) (by decide))))
      have f130 := (f127.wr W128)
      obtain ⟨T131, h131, X131, e131, W131, st131⟩ := putF X128 hx hZ hown (host := "") (Or.inl (hw _ (List.mem_of_getElem? (i := 24) rfl))) Via.refl e128 f129 f130 (Or.inl (hw _ (List.mem_of_getElem? (i := 25) rfl))) (hw _ (List.mem_of_getElem? (i := 12) rfl)) (ty := .int) (by decide) rfl rfl (g := (mkF m 192 #[.val (.int p1), .val (.int p2), .val (.int p3), .val (.int p4), .val (.int p5), .val (.int v5), .val (.int v11), .val (.int v13), .val (.ref b14), .val (.int v61), .val (.int v62), .val (.int v64), .val (.ref b65), .unset, .unset] [(.int v62), (.ref b65)])) rfl rfl (hb hby at_192)
      have Z131 : n0 ≤ h131.size := Nat.le_trans Z128 (Nat.le_of_eq W131.size.symm)
      have O131 := O128.wr W131 g_b65
      have N131 := Fr.snoc X131 N128 g_b65
      have Fw131 := f129.same W131
      have go132 : own_go p e below (s₁.setTop (entryFrame m #[(.int p1), (.int p2), (.int p3), (.int p4), (.int p5)] maxLocals)) (T131.setTop (mkF m 199 #[.val (.int p1), .val (.int p2), .val (.int p3), .val (.int p4), .val (.int p5), .val (.int v5), .val (.int v11), .val (.int v13), .val (.ref b14), .val (.int v61), .val (.int v62), .val (.int v64), .val (.ref b65), .unset, .unset] [(.int v64), (.ref b65)])) := by
        intro ttx ktx
        refine go84 ttx ?_
        show Steps p.tables e below (T83.setTop (mkF m 169 #[.val (.int p1), .val (.int p2), .val (.int p3), .val (.int p4), .val (.int p5), .val (.int v5), .val (.int v11), .val (.int v13), .val (.ref b14), .val (.int v61), .val (.int v62), .val (.int v64), .val (.ref b65), .unset, .unset] [(.int v5), (.ref b65)])) _
        refine XS.ifNo X83.here hx rfl (hb hby at_169) rfl ((if0 _ _).trans (feq hc85_169).1) ?_
        show Steps p.tables e below (T83.setTop (mkF m 172 #[.val (.int p1), .val (.int p2), .val (.int p3), .val (.int p4), .val (.int p5), .val (.int v5), .val (.int v11), .val (.int v13), .val (.ref b14), .val (.int v61), .val (.int v62), .val (.int v64), .val (.ref b65), .unset, .unset] [(.ref b65)])) _
        refine XS.aconstNull X83.here hx rfl (hb hby at_172) ?_
        show Steps p.tables e below (T83.setTop (mkF m 173 #[.val (.int p1), .val (.int p2), .val (.int p3), .val (.int p4), .val (.int p5), .val (.int v5), .val (.int v11), .val (.int v13), .val (.ref b14), .val (.int v61), .val (.int v62), .val (.int v64), .val (.ref b65), .unset, .unset] [.null, (.ref b65)])) _
        refine XS.goto X83.here hx rfl (pc0 := 173) (pc' := 178) rfl (hb hby at_173) (by decide) (by decide) ?_
        show Steps p.tables e below (T83.setTop (mkF m 178 #[.val (.int p1), .val (.int p2), .val (.int p3), .val (.int p4), .val (.int p5), .val (.int v5), .val (.int v11), .val (.int v13), .val (.ref b14), .val (.int v61), .val (.int v62), .val (.int v64), .val (.ref b65), .unset, .unset] [.null, (.ref b65)])) _
        refine st125 _ ?_
        show Steps p.tables e below (T125.setTop (mkF m 181 #[.val (.int p1), .val (.int p2), .val (.int p3), .val (.int p4), .val (.int p5), .val (.int v5), .val (.int v11), .val (.int v13), .val (.ref b14), .val (.int v61), .val (.int v62), .val (.int v64), .val (.ref b65), .unset, .unset] [])) _
        refine XS.aload X125.here hx rfl (hb hby at_181) rfl rfl ?_
        show Steps p.tables e below (T125.setTop (mkF m 183 #[.val (.int p1), .val (.int p2), .val (.int p3), .val (.int p4), .val (.int p5), .val (.int v5), .val (.int v11), .val (.int v13), .val (.ref b14), .val (.int v61), .val (.int v62), .val (.int v64), .val (.ref b65), .unset, .unset] [(.ref b65)])) _
        refine XS.iload X125.here hx rfl (hb hby at_183) rfl ?_
        show Steps p.tables e below (T125.setTop (mkF m 185 #[.val (.int p1), .val (.int p2), .val (.int p3), .val (.int p4), .val (.int p5), .val (.int v5), .val (.int v11), .val (.int v13), .val (.ref b14), .val (.int v61), .val (.int v62), .val (.int v64), .val (.ref b65), .unset, .unset] [(.int v61), (.ref b65)])) _
        refine st128 _ ?_
        show Steps p.tables e below (T128.setTop (mkF m 188 #[.val (.int p1), .val (.int p2), .val (.int p3), .val (.int p4), .val (.int p5), .val (.int v5), .val (.int v11), .val (.int v13), .val (.ref b14), .val (.int v61), .val (.int v62), .val (.int v64), .val (.ref b65), .unset, .unset] [])) _
        refine XS.aload X128.here hx rfl (hb hby at_188) rfl rfl ?_
        show Steps p.tables e below (T128.setTop (mkF m 190 #[.val (.int p1), .val (.int p2), .val (.int p3), .val (.int p4), .val (.int p5), .val (.int v5), .val (.int v11), .val (.int v13), .val (.ref b14), .val (.int v61), .val (.int v62), .val (.int v64), .val (.ref b65), .unset, .unset] [(.ref b65)])) _
        refine XS.iload X128.here hx rfl (hb hby at_190) rfl ?_
        show Steps p.tables e below (T128.setTop (mkF m 192 #[.val (.int p1), .val (.int p2), .val (.int p3), .val (.int p4), .val (.int p5), .val (.int v5), .val (.int v11), .val (.int v13), .val (.ref b14), .val (.int v61), .val (.int v62), .val (.int v64), .val (.ref b65), .unset, .unset] [(.int v62), (.ref b65)])) _
        refine st131 _ ?_
        show Steps p.tables e below (T131.setTop (mkF m 195 #[.val (.int p1), .val (.int p2), .val (.int p3), .val (.int p4), .val (.int p5), .val (.int v5), .val (.int v11), .val (.int v13), .val (.ref b14), .val (.int v61), .val (.int v62), .val (.int v64), .val (.ref b65), .unset, .unset] [])) _
        refine XS.aload X131.here hx rfl (hb hby at_195) rfl rfl ?_
        show Steps p.tables e below (T131.setTop (mkF m 197 #[.val (.int p1), .val (.int p2), .val (.int p3), .val (.int p4), .val (.int p5), .val (.int v5), .val (.int v11), .val (.int v13), .val (.ref b14), .val (.int v61), .val (.int v62), .val (.int v64), .val (.ref b65), .unset, .unset] [(.ref b65)])) _
        refine XS.iload X131.here hx rfl (hb hby at_197) rfl ?_
        exact ktx
      have f134 := ((Fw125.other W128 (Or.inr (slot_ne (Or.inl (hw _ (List.mem_of_getElem? (i := 21) rfl))) (Or.inl (hw _ (List.mem_of_getElem? (i := 23) rfl))) (by decide) (t := (.array (.object "java/lang/Object"))) (t' := .int) (by decide) (by decide)))).other W131 (Or.inr (slot_ne (Or.inl (hw _ (List.mem_of_getElem? (i := 21) rfl))) (Or.inl (hw _ (List.mem_of_getElem? (i := 25) rfl))) (by decide) (t := (.array (.object "java/lang/Object"))) (t' := .int) (by decide) (by decide))))
      have f135 := (f130.wr W131)
      obtain ⟨cq133, kq133, q133a, q133b, q133c⟩ := isOf hZ e131 f135
      obtain ⟨_, _, ⟨T133, L133, k133, n133⟩, -, X133, ⟨Lc133, hQ133, l133, y133, z133⟩, st133⟩ := X131.virtualBack hx (y := (⟨"com/example/wilt/wilt/core/ExpirySlots$Run", "first", "(I)Ljava/lang/Object;"⟩ : MethodName)) (z := (⟨"com/example/wilt/wilt/core/ExpirySlots$Run", "first", "(I)Ljava/lang/Object;"⟩ : MethodName)) hown (mvT hZ (hw _ (List.mem_of_getElem? (i := 26) rfl))) (mvT hZ (hw _ (List.mem_of_getElem? (i := 27) rfl))) (notFace_of_selects (args := #[]) (mvT hZ (hw _ (List.mem_of_getElem? (i := 29) rfl)))) (mvT hZ (hw _ (List.mem_of_getElem? (i := 29) rfl))) (mvT hZ (hw _ (List.mem_of_getElem? (i := 28) rfl))) (by decide) (backOf (W := 0) (rmFN l Z a0 hw [] b65 v64  h131 n0 Z131 f134) hZ (hw _ (List.mem_of_getElem? (i := 30) rfl)) (hw _ (List.mem_of_getElem? (i := 13) rfl)) (by decide) (by decide)) q133a q133c (g := (mkF m 199 #[.val (.int p1), .val (.int p2), .val (.int p3), .val (.int p4), .val (.int p5), .val (.int v5), .val (.int v11), .val (.int v13), .val (.ref b14), .val (.int v61), .val (.int v62), .val (.int v64), .val (.ref b65), .unset, .unset] [(.int v64), (.ref b65)])) rfl (by rw [hml]; rfl) (Steps.refl _) (argsL := [(.int v64)]) (rest := []) (lenOf own_pd3 rfl) rfl (by show 2 * 0 + _ ≤ _; exact Nat.le_of_eq rfl) (hb hby at_199) (fun _ _ => ⟨rfl, e131, (by decide : 10 + 0 ≤ _), (by decide : 25 + 0 ≤ _)⟩)
      dsimp only [Pt.U, Pt.locs, Pt.cells, Pt.slots] at X133 l133 y133 z133 st133 hQ133
      rw [l133, y133, z133] at X133
      obtain ⟨rfl, Nq133, e133⟩ := hQ133
      have N133 := Fr.app N131 Nq133
      obtain ⟨v136, hv_v136⟩ : ∃ z : Int32, z = (v61 + v64) := ⟨_, rfl⟩
      have hc137_213 : ¬ (v5 = (0 : Int32)) := hc85_169
      have go138 : own_go p e below (s₁.setTop (entryFrame m #[(.int p1), (.int p2), (.int p3), (.int p4), (.int p5)] maxLocals)) (T133.setTop (mkF m 226 #[.val (.int p1), .val (.int p2), .val (.int p3), .val (.int p4), .val (.int p5), .val (.int v5), .val (.int v11), .val (.int v13), .val (.ref b14), .val (.int v61), .val (.int v62), .val (.int v64), .val (.ref b65), .val .null, .val (.int v136)] [(.int (1 : Int32))])) := by
        intro ttx ktx
        refine go132 ttx ?_
        show Steps p.tables e below (T131.setTop (mkF m 199 #[.val (.int p1), .val (.int p2), .val (.int p3), .val (.int p4), .val (.int p5), .val (.int v5), .val (.int v11), .val (.int v13), .val (.ref b14), .val (.int v61), .val (.int v62), .val (.int v64), .val (.ref b65), .unset, .unset] [(.int v64), (.ref b65)])) _
        refine st133.trans ?_
        show Steps p.tables e below (T133.setTop (mkF m 202 #[.val (.int p1), .val (.int p2), .val (.int p3), .val (.int p4), .val (.int p5), .val (.int v5), .val (.int v11), .val (.int v13), .val (.ref b14), .val (.int v61), .val (.int v62), .val (.int v64), .val (.ref b65), .unset, .unset] [.null])) _
        refine XS.astore X133.here hx rfl (hb hby at_202) rfl rfl (l' := #[.val (.int p1), .val (.int p2), .val (.int p3), .val (.int p4), .val (.int p5), .val (.int v5), .val (.int v11), .val (.int v13), .val (.ref b14), .val (.int v61), .val (.int v62), .val (.int v64), .val (.ref b65), .val .null, .unset]) rfl ?_
        show Steps p.tables e below (T133.setTop (mkF m 204 #[.val (.int p1), .val (.int p2), .val (.int p3), .val (.int p4), .val (.int p5), .val (.int v5), .val (.int v11), .val (.int v13), .val (.ref b14), .val (.int v61), .val (.int v62), .val (.int v64), .val (.ref b65), .val .null, .unset] [])) _
        refine XS.iload X133.here hx rfl (hb hby at_204) rfl ?_
        show Steps p.tables e below (T133.setTop (mkF m 206 #[.val (.int p1), .val (.int p2), .val (.int p3), .val (.int p4), .val (.int p5), .val (.int v5), .val (.int v11), .val (.int v13), .val (.ref b14), .val (.int v61), .val (.int v62), .val (.int v64), .val (.ref b65), .val .null, .unset] [(.int v61)])) _
        refine XS.iload X133.here hx rfl (hb hby at_206) rfl ?_
        show Steps p.tables e below (T133.setTop (mkF m 208 #[.val (.int p1), .val (.int p2), .val (.int p3), .val (.int p4), .val (.int p5), .val (.int v5), .val (.int v11), .val (.int v13), .val (.ref b14), .val (.int v61), .val (.int v62), .val (.int v64), .val (.ref b65), .val .null, .unset] [(.int v64), (.int v61)])) _
        refine XS.iadd X133.here hx rfl (hb hby at_208) rfl ?_
        show Steps p.tables e below (T133.setTop (mkF m 209 #[.val (.int p1), .val (.int p2), .val (.int p3), .val (.int p4), .val (.int p5), .val (.int v5), .val (.int v11), .val (.int v13), .val (.ref b14), .val (.int v61), .val (.int v62), .val (.int v64), .val (.ref b65), .val .null, .unset] [(.int (v61 + v64))])) _
        rw [← hv_v136]
        show Steps p.tables e below (T133.setTop (mkF m 209 #[.val (.int p1), .val (.int p2), .val (.int p3), .val (.int p4), .val (.int p5), .val (.int v5), .val (.int v11), .val (.int v13), .val (.ref b14), .val (.int v61), .val (.int v62), .val (.int v64), .val (.ref b65), .val .null, .unset] [(.int v136)])) _
        refine XS.istore X133.here hx rfl (hb hby at_209) rfl (l' := #[.val (.int p1), .val (.int p2), .val (.int p3), .val (.int p4), .val (.int p5), .val (.int v5), .val (.int v11), .val (.int v13), .val (.ref b14), .val (.int v61), .val (.int v62), .val (.int v64), .val (.ref b65), .val .null, .val (.int v136)]) rfl ?_
        show Steps p.tables e below (T133.setTop (mkF m 211 #[.val (.int p1), .val (.int p2), .val (.int p3), .val (.int p4), .val (.int p5), .val (.int v5), .val (.int v11), .val (.int v13), .val (.ref b14), .val (.int v61), .val (.int v62), .val (.int v64), .val (.ref b65), .val .null, .val (.int v136)] [])) _
        refine XS.iload X133.here hx rfl (hb hby at_211) rfl ?_
        show Steps p.tables e below (T133.setTop (mkF m 213 #[.val (.int p1), .val (.int p2), .val (.int p3), .val (.int p4), .val (.int p5), .val (.int v5), .val (.int v11), .val (.int v13), .val (.ref b14), .val (.int v61), .val (.int v62), .val (.int v64), .val (.ref b65), .val .null, .val (.int v136)] [(.int v5)])) _
        refine XS.ifNo X133.here hx rfl (hb hby at_213) rfl ((if0 _ _).trans (feq hc137_213).1) ?_
        show Steps p.tables e below (T133.setTop (mkF m 216 #[.val (.int p1), .val (.int p2), .val (.int p3), .val (.int p4), .val (.int p5), .val (.int v5), .val (.int v11), .val (.int v13), .val (.ref b14), .val (.int v61), .val (.int v62), .val (.int v64), .val (.ref b65), .val .null, .val (.int v136)] [])) _
        refine XS.aload X133.here hx rfl (hb hby at_216) rfl rfl ?_
        show Steps p.tables e below (T133.setTop (mkF m 218 #[.val (.int p1), .val (.int p2), .val (.int p3), .val (.int p4), .val (.int p5), .val (.int v5), .val (.int v11), .val (.int v13), .val (.ref b14), .val (.int v61), .val (.int v62), .val (.int v64), .val (.ref b65), .val .null, .val (.int v136)] [.null])) _
        refine XS.ifnonnullNo X133.here hx rfl (hb hby at_218) rfl ?_
        show Steps p.tables e below (T133.setTop (mkF m 221 #[.val (.int p1), .val (.int p2), .val (.int p3), .val (.int p4), .val (.int p5), .val (.int v5), .val (.int v11), .val (.int v13), .val (.ref b14), .val (.int v61), .val (.int v62), .val (.int v64), .val (.ref b65), .val .null, .val (.int v136)] [])) _
        refine XS.iconst X133.here hx rfl (hb hby at_221) ?_
        show Steps p.tables e below (T133.setTop (mkF m 222 #[.val (.int p1), .val (.int p2), .val (.int p3), .val (.int p4), .val (.int p5), .val (.int v5), .val (.int v11), .val (.int v13), .val (.ref b14), .val (.int v61), .val (.int v62), .val (.int v64), .val (.ref b65), .val .null, .val (.int v136)] [(.int (1 : Int32))])) _
        refine XS.goto X133.here hx rfl (pc0 := 222) (pc' := 226) rfl (hb hby at_222) (by decide) (by decide) ?_
        exact ktx
      obtain ⟨fs, hr, hrun, hended, hW, hsame⟩ := X133.leave (v := some (.int (1 : Int32))) (fun h => by rw [Bd.returns] at h; cases h)
      refine ⟨_, _, go138 _ ?_, hrun, hended, _, _, rfl, ?_, ⟨_, rfl⟩, hW, hsame.mono (by decide) (by decide)⟩
      · exact retN X133 hx (t := .boolean) Bd.returns (by simp) (hb hby at_226) hr
      · show Q0 Z p1 p2 p3 p4 p5 h0 n0 _ T133.heap _
        rw [e133]
        exact ⟨rfl, N133⟩
  · obtain ⟨cl139, Ar139, q139, S139, M139, H139, G139⟩ := id V58
    have h7 : ¬ v13 < 0 ∧ v13 < 8 := by rw [hv_v13]; exact own_7 _
    have hin139 : ¬ (v13 < 0 ∨ cl139.slots.size ≤ (v13).toNatClampNeg) := inb_of S139 h7
    obtain ⟨T140, h140, X140, e140, W140, st140⟩ := stR X58 hx hZ e58 Ar139 (j := v13) hin139 rfl (Or.inl rfl) (g := (mkF m 133 #[.val (.int p1), .val (.int p2), .val (.int p3), .val (.int p4), .val (.int p5), .val (.int v5), .val (.int v11), .val (.int v13), .val (.ref b14), .unset, .unset, .unset, .unset, .unset, .unset] [.null, (.int v13), (.ref b14)])) rfl rfl (hb hby at_133)
    have Z140 : n0 ≤ h140.size := Nat.le_trans Z58 (Nat.le_of_eq W140.size.symm)
    have O140 := O58.wr W140 g_b14
    have N140 := Fr.snoc X140 N58 g_b14
    have V140 : Arv Z h140 b14 k14 (.object "java/lang/Object") (8 : Int32) (([(.ref b15), (.ref b21), (.ref b26), (.ref b32), (.ref b37), (.ref b43), (.ref b48), (.ref b54)] : List Value).set v13.toNatClampNeg .null) .null := Arv.set Ar139 q139 S139 M139 H139 G139 rfl W140 v13.toNatClampNeg rfl (own_cl h7.1 h7.2)
    obtain ⟨v141, hv_v141⟩ : ∃ z : Int32, z = (p3 &&& (3 : Int32)) := ⟨_, rfl⟩
    have go142 : own_go p e below (s₁.setTop (entryFrame m #[(.int p1), (.int p2), (.int p3), (.int p4), (.int p5)] maxLocals)) (T140.setTop (mkF m 144 #[.val (.int p1), .val (.int p2), .val (.int p3), .val (.int p4), .val (.int p5), .val (.int v5), .val (.int v11), .val (.int v13), .val (.ref b14), .val (.int v141), .unset, .unset, .unset, .unset, .unset] [(.int ((1 : Int32) + (p4 &&& (3 : Int32))))])) := by
      intro ttx ktx
      refine go59 ttx ?_
      show Steps p.tables e below (T58.setTop (mkF m 125 #[.val (.int p1), .val (.int p2), .val (.int p3), .val (.int p4), .val (.int p5), .val (.int v5), .val (.int v11), .val (.int v13), .val (.ref b14), .unset, .unset, .unset, .unset, .unset, .unset] [(.int v11)])) _
      refine XS.ifNo X58.here hx rfl (hb hby at_125) rfl ((if0 _ _).trans (feq hc60_125).1) ?_
      show Steps p.tables e below (T58.setTop (mkF m 128 #[.val (.int p1), .val (.int p2), .val (.int p3), .val (.int p4), .val (.int p5), .val (.int v5), .val (.int v11), .val (.int v13), .val (.ref b14), .unset, .unset, .unset, .unset, .unset, .unset] [])) _
      refine XS.aload X58.here hx rfl (hb hby at_128) rfl rfl ?_
      show Steps p.tables e below (T58.setTop (mkF m 130 #[.val (.int p1), .val (.int p2), .val (.int p3), .val (.int p4), .val (.int p5), .val (.int v5), .val (.int v11), .val (.int v13), .val (.ref b14), .unset, .unset, .unset, .unset, .unset, .unset] [(.ref b14)])) _
      refine XS.iload X58.here hx rfl (hb hby at_130) rfl ?_
      show Steps p.tables e below (T58.setTop (mkF m 132 #[.val (.int p1), .val (.int p2), .val (.int p3), .val (.int p4), .val (.int p5), .val (.int v5), .val (.int v11), .val (.int v13), .val (.ref b14), .unset, .unset, .unset, .unset, .unset, .unset] [(.int v13), (.ref b14)])) _
      refine XS.aconstNull X58.here hx rfl (hb hby at_132) ?_
      show Steps p.tables e below (T58.setTop (mkF m 133 #[.val (.int p1), .val (.int p2), .val (.int p3), .val (.int p4), .val (.int p5), .val (.int v5), .val (.int v11), .val (.int v13), .val (.ref b14), .unset, .unset, .unset, .unset, .unset, .unset] [.null, (.int v13), (.ref b14)])) _
      refine st140 _ ?_
      show Steps p.tables e below (T140.setTop (mkF m 134 #[.val (.int p1), .val (.int p2), .val (.int p3), .val (.int p4), .val (.int p5), .val (.int v5), .val (.int v11), .val (.int v13), .val (.ref b14), .unset, .unset, .unset, .unset, .unset, .unset] [])) _
      refine XS.iloadN X140.here hx rfl (hb hby at_134) rfl ?_
      show Steps p.tables e below (T140.setTop (mkF m 135 #[.val (.int p1), .val (.int p2), .val (.int p3), .val (.int p4), .val (.int p5), .val (.int v5), .val (.int v11), .val (.int v13), .val (.ref b14), .unset, .unset, .unset, .unset, .unset, .unset] [(.int p3)])) _
      refine XS.iconst X140.here hx rfl (hb hby at_135) ?_
      show Steps p.tables e below (T140.setTop (mkF m 136 #[.val (.int p1), .val (.int p2), .val (.int p3), .val (.int p4), .val (.int p5), .val (.int v5), .val (.int v11), .val (.int v13), .val (.ref b14), .unset, .unset, .unset, .unset, .unset, .unset] [(.int (3 : Int32)), (.int p3)])) _
      refine XS.iand X140.here hx rfl (hb hby at_136) rfl ?_
      show Steps p.tables e below (T140.setTop (mkF m 137 #[.val (.int p1), .val (.int p2), .val (.int p3), .val (.int p4), .val (.int p5), .val (.int v5), .val (.int v11), .val (.int v13), .val (.ref b14), .unset, .unset, .unset, .unset, .unset, .unset] [(.int (p3 &&& (3 : Int32)))])) _
      rw [← hv_v141]
      show Steps p.tables e below (T140.setTop (mkF m 137 #[.val (.int p1), .val (.int p2), .val (.int p3), .val (.int p4), .val (.int p5), .val (.int v5), .val (.int v11), .val (.int v13), .val (.ref b14), .unset, .unset, .unset, .unset, .unset, .unset] [(.int v141)])) _
      refine XS.istore X140.here hx rfl (hb hby at_137) rfl (l' := #[.val (.int p1), .val (.int p2), .val (.int p3), .val (.int p4), .val (.int p5), .val (.int v5), .val (.int v11), .val (.int v13), .val (.ref b14), .val (.int v141), .unset, .unset, .unset, .unset, .unset]) rfl ?_
      show Steps p.tables e below (T140.setTop (mkF m 139 #[.val (.int p1), .val (.int p2), .val (.int p3), .val (.int p4), .val (.int p5), .val (.int v5), .val (.int v11), .val (.int v13), .val (.ref b14), .val (.int v141), .unset, .unset, .unset, .unset, .unset] [])) _
      refine XS.iconst X140.here hx rfl (hb hby at_139) ?_
      show Steps p.tables e below (T140.setTop (mkF m 140 #[.val (.int p1), .val (.int p2), .val (.int p3), .val (.int p4), .val (.int p5), .val (.int v5), .val (.int v11), .val (.int v13), .val (.ref b14), .val (.int v141), .unset, .unset, .unset, .unset, .unset] [(.int (1 : Int32))])) _
      refine XS.iloadN X140.here hx rfl (hb hby at_140) rfl ?_
      show Steps p.tables e below (T140.setTop (mkF m 141 #[.val (.int p1), .val (.int p2), .val (.int p3), .val (.int p4), .val (.int p5), .val (.int v5), .val (.int v11), .val (.int v13), .val (.ref b14), .val (.int v141), .unset, .unset, .unset, .unset, .unset] [(.int p4), (.int (1 : Int32))])) _
      refine XS.iconst X140.here hx rfl (hb hby at_141) ?_
      show Steps p.tables e below (T140.setTop (mkF m 142 #[.val (.int p1), .val (.int p2), .val (.int p3), .val (.int p4), .val (.int p5), .val (.int v5), .val (.int v11), .val (.int v13), .val (.ref b14), .val (.int v141), .unset, .unset, .unset, .unset, .unset] [(.int (3 : Int32)), (.int p4), (.int (1 : Int32))])) _
      refine XS.iand X140.here hx rfl (hb hby at_142) rfl ?_
      show Steps p.tables e below (T140.setTop (mkF m 143 #[.val (.int p1), .val (.int p2), .val (.int p3), .val (.int p4), .val (.int p5), .val (.int v5), .val (.int v11), .val (.int v13), .val (.ref b14), .val (.int v141), .unset, .unset, .unset, .unset, .unset] [(.int (p4 &&& (3 : Int32))), (.int (1 : Int32))])) _
      refine XS.iadd X140.here hx rfl (hb hby at_143) rfl ?_
      exact ktx
    obtain ⟨v143, hv_v143⟩ : ∃ z : Int32, z = ((1 : Int32) + (p4 &&& (3 : Int32))) := ⟨_, rfl⟩
    obtain ⟨v144, hv_v144⟩ : ∃ z : Int32, z = ((p5 &&& (2147483647 : Int32)) % v143) := ⟨_, rfl⟩
    obtain ⟨T145, h145, X145, e145, E145, A145, D145, -, st145⟩ := newO X140 hx hZ hown (hw _ (List.mem_of_getElem? (i := 11) rfl)) (hw _ (List.mem_of_getElem? (i := 12) rfl)) (hw _ (List.mem_of_getElem? (i := 13) rfl)) e140 (g := (mkF m 156 #[.val (.int p1), .val (.int p2), .val (.int p3), .val (.int p4), .val (.int p5), .val (.int v5), .val (.int v11), .val (.int v13), .val (.ref b14), .val (.int v141), .val (.int v143), .val (.int v144), .unset, .unset, .unset] [])) rfl (hb hby at_156) (by decide) (by decide)
    obtain ⟨b145, g145⟩ : ∃ z, z = h140.size := ⟨_, rfl⟩
    rw [← g145] at A145 D145 st145
    have ne146 : b14 ≠ b145 := Nat.ne_of_lt (Nat.lt_of_lt_of_le V140.lt (Nat.le_of_eq g145.symm))
    have f148 := ((((((((((((((((Eq15.wr W20).keep Kq21).wr W25).keep Kq26).wr W30).keep Kq32).wr W36).keep Kq37).wr W41).keep Kq43).wr W47).keep Kq48).wr W52).keep Kq54).wr W58).wr W140)
    have ne147 : b15 ≠ b145 := Nat.ne_of_lt (Nat.lt_of_lt_of_le f148.lt (Nat.le_of_eq g145.symm))
    have f150 := ((((((((((((((Eq21.wr W25).keep Kq26).wr W30).keep Kq32).wr W36).keep Kq37).wr W41).keep Kq43).wr W47).keep Kq48).wr W52).keep Kq54).wr W58).wr W140)
    have ne149 : b21 ≠ b145 := Nat.ne_of_lt (Nat.lt_of_lt_of_le f150.lt (Nat.le_of_eq g145.symm))
    have f152 := ((((((((((((Eq26.wr W30).keep Kq32).wr W36).keep Kq37).wr W41).keep Kq43).wr W47).keep Kq48).wr W52).keep Kq54).wr W58).wr W140)
    have ne151 : b26 ≠ b145 := Nat.ne_of_lt (Nat.lt_of_lt_of_le f152.lt (Nat.le_of_eq g145.symm))
    have f154 := ((((((((((Eq32.wr W36).keep Kq37).wr W41).keep Kq43).wr W47).keep Kq48).wr W52).keep Kq54).wr W58).wr W140)
    have ne153 : b32 ≠ b145 := Nat.ne_of_lt (Nat.lt_of_lt_of_le f154.lt (Nat.le_of_eq g145.symm))
    have f156 := ((((((((Eq37.wr W41).keep Kq43).wr W47).keep Kq48).wr W52).keep Kq54).wr W58).wr W140)
    have ne155 : b37 ≠ b145 := Nat.ne_of_lt (Nat.lt_of_lt_of_le f156.lt (Nat.le_of_eq g145.symm))
    have f158 := ((((((Eq43.wr W47).keep Kq48).wr W52).keep Kq54).wr W58).wr W140)
    have ne157 : b43 ≠ b145 := Nat.ne_of_lt (Nat.lt_of_lt_of_le f158.lt (Nat.le_of_eq g145.symm))
    have f160 := ((((Eq48.wr W52).keep Kq54).wr W58).wr W140)
    have ne159 : b48 ≠ b145 := Nat.ne_of_lt (Nat.lt_of_lt_of_le f160.lt (Nat.le_of_eq g145.symm))
    have f162 := ((Eq54.wr W58).wr W140)
    have ne161 : b54 ≠ b145 := Nat.ne_of_lt (Nat.lt_of_lt_of_le f162.lt (Nat.le_of_eq g145.symm))
    have g_b145 : n0 ≤ b145 := Nat.le_trans Z140 (Nat.le_of_eq g145.symm)
    have Z145 : n0 ≤ h145.size := Nat.le_trans Z140 E145.1
    have O145 := O140.ext E145
    have F145_firsts : Fld Z h145 b145 "com/example/wilt/wilt/core/ExpirySlots$Run" "firsts" "[Ljava/lang/Object;" .null := D145 (Or.inl (hw _ (List.mem_of_getElem? (i := 21) rfl))) (ty := (.array (.object "java/lang/Object"))) (by decide)
    have F145_from : Fld Z h145 b145 "com/example/wilt/wilt/core/ExpirySlots$Run" "from" "I" (.int (0 : Int32)) := D145 (Or.inl (hw _ (List.mem_of_getElem? (i := 23) rfl))) (ty := .int) (by decide)
    have F145_size : Fld Z h145 b145 "com/example/wilt/wilt/core/ExpirySlots$Run" "size" "I" (.int (0 : Int32)) := D145 (Or.inl (hw _ (List.mem_of_getElem? (i := 25) rfl))) (ty := .int) (by decide)
    obtain ⟨_, _, ⟨T163, L163, k163, n163⟩, -, X163, ⟨Lc163, hQ163, l163, y163, z163⟩, st163⟩ := X145.specialBack hx (y := (⟨"com/example/wilt/wilt/core/ExpirySlots$Run", "<init>", "()V"⟩ : MethodName)) rfl hown (mvT hZ (hw _ (List.mem_of_getElem? (i := 14) rfl))) (mvT hZ (hw _ (List.mem_of_getElem? (i := 15) rfl))) (mvT hZ (hw _ (List.mem_of_getElem? (i := 16) rfl))) (by decide) (backOf (W := 1) (rm2 l Z a0 hw [] b145  h145 n0 Z145 ) hZ (hw _ (List.mem_of_getElem? (i := 16) rfl)) (hw _ (List.mem_of_getElem? (i := 13) rfl)) (by decide) (by decide)) (g := (mkF m 160 #[.val (.int p1), .val (.int p2), .val (.int p3), .val (.int p4), .val (.int p5), .val (.int v5), .val (.int v11), .val (.int v13), .val (.ref b14), .val (.int v141), .val (.int v143), .val (.int v144), .unset, .unset, .unset] [(.ref b145), (.ref b145)])) rfl (by rw [hml]; rfl) (Steps.refl _) (a := b145) (argsL := []) (rest := [(.ref b145)]) (lenOf own_pd0 rfl) rfl (by show 2 * 0 + _ ≤ _; exact Nat.le_of_eq rfl) (hb hby at_160) (fun _ _ => ⟨rfl, e145, (by decide : 10 + 0 ≤ _), (by decide : 25 + 0 ≤ _)⟩)
    dsimp only [Pt.U, Pt.locs, Pt.cells, Pt.slots] at X163 l163 y163 z163 st163 hQ163
    rw [l163, y163, z163] at X163
    obtain ⟨rfl, Nq163, e163⟩ := hQ163
    have N163 := Fr.app N140 Nq163
    have go164 : own_go p e below (s₁.setTop (entryFrame m #[(.int p1), (.int p2), (.int p3), (.int p4), (.int p5)] maxLocals)) (T163.setTop (mkF m 169 #[.val (.int p1), .val (.int p2), .val (.int p3), .val (.int p4), .val (.int p5), .val (.int v5), .val (.int v11), .val (.int v13), .val (.ref b14), .val (.int v141), .val (.int v143), .val (.int v144), .val (.ref b145), .unset, .unset] [(.int v5), (.ref b145)])) := by
      intro ttx ktx
      refine go142 ttx ?_
      show Steps p.tables e below (T140.setTop (mkF m 144 #[.val (.int p1), .val (.int p2), .val (.int p3), .val (.int p4), .val (.int p5), .val (.int v5), .val (.int v11), .val (.int v13), .val (.ref b14), .val (.int v141), .unset, .unset, .unset, .unset, .unset] [(.int ((1 : Int32) + (p4 &&& (3 : Int32))))])) _
      rw [← hv_v143]
      show Steps p.tables e below (T140.setTop (mkF m 144 #[.val (.int p1), .val (.int p2), .val (.int p3), .val (.int p4), .val (.int p5), .val (.int v5), .val (.int v11), .val (.int v13), .val (.ref b14), .val (.int v141), .unset, .unset, .unset, .unset, .unset] [(.int v143)])) _
      refine XS.istore X140.here hx rfl (hb hby at_144) rfl (l' := #[.val (.int p1), .val (.int p2), .val (.int p3), .val (.int p4), .val (.int p5), .val (.int v5), .val (.int v11), .val (.int v13), .val (.ref b14), .val (.int v141), .val (.int v143), .unset, .unset, .unset, .unset]) rfl ?_
      show Steps p.tables e below (T140.setTop (mkF m 146 #[.val (.int p1), .val (.int p2), .val (.int p3), .val (.int p4), .val (.int p5), .val (.int v5), .val (.int v11), .val (.int v13), .val (.ref b14), .val (.int v141), .val (.int v143), .unset, .unset, .unset, .unset] [])) _
      refine XS.iload X140.here hx rfl (hb hby at_146) rfl ?_
      show Steps p.tables e below (T140.setTop (mkF m 148 #[.val (.int p1), .val (.int p2), .val (.int p3), .val (.int p4), .val (.int p5), .val (.int v5), .val (.int v11), .val (.int v13), .val (.ref b14), .val (.int v141), .val (.int v143), .unset, .unset, .unset, .unset] [(.int p5)])) _
      refine X140.ldcInt hx hown (mvT hZ (hw _ (List.mem_of_getElem? (i := 10) rfl))) (g := (mkF m 148 #[.val (.int p1), .val (.int p2), .val (.int p3), .val (.int p4), .val (.int p5), .val (.int v5), .val (.int v11), .val (.int v13), .val (.ref b14), .val (.int v141), .val (.int v143), .unset, .unset, .unset, .unset] [(.int p5)])) rfl (hb hby at_148) _ ?_
      show Steps p.tables e below (T140.setTop (mkF m 150 #[.val (.int p1), .val (.int p2), .val (.int p3), .val (.int p4), .val (.int p5), .val (.int v5), .val (.int v11), .val (.int v13), .val (.ref b14), .val (.int v141), .val (.int v143), .unset, .unset, .unset, .unset] [(.int (2147483647 : Int32)), (.int p5)])) _
      refine XS.iand X140.here hx rfl (hb hby at_150) rfl ?_
      show Steps p.tables e below (T140.setTop (mkF m 151 #[.val (.int p1), .val (.int p2), .val (.int p3), .val (.int p4), .val (.int p5), .val (.int v5), .val (.int v11), .val (.int v13), .val (.ref b14), .val (.int v141), .val (.int v143), .unset, .unset, .unset, .unset] [(.int (p5 &&& (2147483647 : Int32)))])) _
      refine XS.iload X140.here hx rfl (hb hby at_151) rfl ?_
      show Steps p.tables e below (T140.setTop (mkF m 153 #[.val (.int p1), .val (.int p2), .val (.int p3), .val (.int p4), .val (.int p5), .val (.int v5), .val (.int v11), .val (.int v13), .val (.ref b14), .val (.int v141), .val (.int v143), .unset, .unset, .unset, .unset] [(.int v143), (.int (p5 &&& (2147483647 : Int32)))])) _
      refine iremM X140 hx rfl (hb hby at_153) rfl (by rw [hv_v143]; exact (own_sz _).1) ?_
      show Steps p.tables e below (T140.setTop (mkF m 154 #[.val (.int p1), .val (.int p2), .val (.int p3), .val (.int p4), .val (.int p5), .val (.int v5), .val (.int v11), .val (.int v13), .val (.ref b14), .val (.int v141), .val (.int v143), .unset, .unset, .unset, .unset] [(.int ((p5 &&& (2147483647 : Int32)) % v143))])) _
      rw [← hv_v144]
      show Steps p.tables e below (T140.setTop (mkF m 154 #[.val (.int p1), .val (.int p2), .val (.int p3), .val (.int p4), .val (.int p5), .val (.int v5), .val (.int v11), .val (.int v13), .val (.ref b14), .val (.int v141), .val (.int v143), .unset, .unset, .unset, .unset] [(.int v144)])) _
      refine XS.istore X140.here hx rfl (hb hby at_154) rfl (l' := #[.val (.int p1), .val (.int p2), .val (.int p3), .val (.int p4), .val (.int p5), .val (.int v5), .val (.int v11), .val (.int v13), .val (.ref b14), .val (.int v141), .val (.int v143), .val (.int v144), .unset, .unset, .unset]) rfl ?_
      show Steps p.tables e below (T140.setTop (mkF m 156 #[.val (.int p1), .val (.int p2), .val (.int p3), .val (.int p4), .val (.int p5), .val (.int v5), .val (.int v11), .val (.int v13), .val (.ref b14), .val (.int v141), .val (.int v143), .val (.int v144), .unset, .unset, .unset] [])) _
      refine st145 _ ?_
      show Steps p.tables e below (T145.setTop (mkF m 159 #[.val (.int p1), .val (.int p2), .val (.int p3), .val (.int p4), .val (.int p5), .val (.int v5), .val (.int v11), .val (.int v13), .val (.ref b14), .val (.int v141), .val (.int v143), .val (.int v144), .unset, .unset, .unset] [(.ref b145)])) _
      refine XS.dup X145.here hx rfl (hb hby at_159) rfl rfl ?_
      show Steps p.tables e below (T145.setTop (mkF m 160 #[.val (.int p1), .val (.int p2), .val (.int p3), .val (.int p4), .val (.int p5), .val (.int v5), .val (.int v11), .val (.int v13), .val (.ref b14), .val (.int v141), .val (.int v143), .val (.int v144), .unset, .unset, .unset] [(.ref b145), (.ref b145)])) _
      refine st163.trans ?_
      show Steps p.tables e below (T163.setTop (mkF m 163 #[.val (.int p1), .val (.int p2), .val (.int p3), .val (.int p4), .val (.int p5), .val (.int v5), .val (.int v11), .val (.int v13), .val (.ref b14), .val (.int v141), .val (.int v143), .val (.int v144), .unset, .unset, .unset] [(.ref b145)])) _
      refine XS.astore X163.here hx rfl (hb hby at_163) rfl rfl (l' := #[.val (.int p1), .val (.int p2), .val (.int p3), .val (.int p4), .val (.int p5), .val (.int v5), .val (.int v11), .val (.int v13), .val (.ref b14), .val (.int v141), .val (.int v143), .val (.int v144), .val (.ref b145), .unset, .unset]) rfl ?_
      show Steps p.tables e below (T163.setTop (mkF m 165 #[.val (.int p1), .val (.int p2), .val (.int p3), .val (.int p4), .val (.int p5), .val (.int v5), .val (.int v11), .val (.int v13), .val (.ref b14), .val (.int v141), .val (.int v143), .val (.int v144), .val (.ref b145), .unset, .unset] [])) _
      refine XS.aload X163.here hx rfl (hb hby at_165) rfl rfl ?_
      show Steps p.tables e below (T163.setTop (mkF m 167 #[.val (.int p1), .val (.int p2), .val (.int p3), .val (.int p4), .val (.int p5), .val (.int v5), .val (.int v11), .val (.int v13), .val (.ref b14), .val (.int v141), .val (.int v143), .val (.int v144), .val (.ref b145), .unset, .unset] [(.ref b145)])) _
      refine XS.iload X163.here hx rfl (hb hby at_167) rfl ?_
      exact ktx
    by_cases hc165_169 : v5 = (0 : Int32)
    · obtain ⟨T166, h166, X166, e166, W166, st166⟩ := putF X163 hx hZ hown (host := "") (Or.inl (hw _ (List.mem_of_getElem? (i := 20) rfl))) Via.refl e163 F145_firsts A145 (Or.inl (hw _ (List.mem_of_getElem? (i := 21) rfl))) (hw _ (List.mem_of_getElem? (i := 12) rfl)) (ty := (.array (.object "java/lang/Object"))) (by decide) rfl rfl (g := (mkF m 178 #[.val (.int p1), .val (.int p2), .val (.int p3), .val (.int p4), .val (.int p5), .val (.int v5), .val (.int v11), .val (.int v13), .val (.ref b14), .val (.int v141), .val (.int v143), .val (.int v144), .val (.ref b145), .unset, .unset] [(.ref b14), (.ref b145)])) rfl rfl (hb hby at_178)
      have Z166 : n0 ≤ h166.size := Nat.le_trans Z145 (Nat.le_of_eq W166.size.symm)
      have O166 := O145.wr W166 g_b145
      have N166 := Fr.snoc X166 N163 g_b145
      have Fw166 := F145_firsts.same W166
      have f167 := (F145_from.other W166 (Or.inr (slot_ne (Or.inl (hw _ (List.mem_of_getElem? (i := 23) rfl))) (Or.inl (hw _ (List.mem_of_getElem? (i := 21) rfl))) (by decide) (t := .int) (t' := (.array (.object "java/lang/Object"))) (by decide) (by decide))))
      have f168 := (A145.wr W166)
      obtain ⟨T169, h169, X169, e169, W169, st169⟩ := putF X166 hx hZ hown (host := "") (Or.inl (hw _ (List.mem_of_getElem? (i := 22) rfl))) Via.refl e166 f167 f168 (Or.inl (hw _ (List.mem_of_getElem? (i := 23) rfl))) (hw _ (List.mem_of_getElem? (i := 12) rfl)) (ty := .int) (by decide) rfl rfl (g := (mkF m 185 #[.val (.int p1), .val (.int p2), .val (.int p3), .val (.int p4), .val (.int p5), .val (.int v5), .val (.int v11), .val (.int v13), .val (.ref b14), .val (.int v141), .val (.int v143), .val (.int v144), .val (.ref b145), .unset, .unset] [(.int v141), (.ref b145)])) rfl rfl (hb hby at_185)
      have Z169 : n0 ≤ h169.size := Nat.le_trans Z166 (Nat.le_of_eq W169.size.symm)
      have O169 := O166.wr W169 g_b145
      have N169 := Fr.snoc X169 N166 g_b145
      have Fw169 := f167.same W169
      have f170 := ((F145_size.other W166 (Or.inr (slot_ne (Or.inl (hw _ (List.mem_of_getElem? (i := 25) rfl))) (Or.inl (hw _ (List.mem_of_getElem? (i := 21) rfl))) (by decide) (t := .int) (t' := (.array (.object "java/lang/Object"))) (by decide) (by decide)))).other W169 (Or.inr (slot_ne (Or.inl (hw _ (List.mem_of_getElem? (i := 25) rfl))) (Or.inl (hw _ (List.mem_of_getElem? (i := 23) rfl))) (by decide) (t := .int) (t' := .int) (by decide) (by decide))))
      have f171 := (f168.wr W169)
      obtain ⟨T172, h172, X172, e172, W172, st172⟩ := putF X169 hx hZ hown (host := "") (Or.inl (hw _ (List.mem_of_getElem? (i := 24) rfl))) Via.refl e169 f170 f171 (Or.inl (hw _ (List.mem_of_getElem? (i := 25) rfl))) (hw _ (List.mem_of_getElem? (i := 12) rfl)) (ty := .int) (by decide) rfl rfl (g := (mkF m 192 #[.val (.int p1), .val (.int p2), .val (.int p3), .val (.int p4), .val (.int p5), .val (.int v5), .val (.int v11), .val (.int v13), .val (.ref b14), .val (.int v141), .val (.int v143), .val (.int v144), .val (.ref b145), .unset, .unset] [(.int v143), (.ref b145)])) rfl rfl (hb hby at_192)
      have Z172 : n0 ≤ h172.size := Nat.le_trans Z169 (Nat.le_of_eq W172.size.symm)
      have O172 := O169.wr W172 g_b145
      have N172 := Fr.snoc X172 N169 g_b145
      have Fw172 := f170.same W172
      have go173 : own_go p e below (s₁.setTop (entryFrame m #[(.int p1), (.int p2), (.int p3), (.int p4), (.int p5)] maxLocals)) (T172.setTop (mkF m 199 #[.val (.int p1), .val (.int p2), .val (.int p3), .val (.int p4), .val (.int p5), .val (.int v5), .val (.int v11), .val (.int v13), .val (.ref b14), .val (.int v141), .val (.int v143), .val (.int v144), .val (.ref b145), .unset, .unset] [(.int v144), (.ref b145)])) := by
        intro ttx ktx
        refine go164 ttx ?_
        show Steps p.tables e below (T163.setTop (mkF m 169 #[.val (.int p1), .val (.int p2), .val (.int p3), .val (.int p4), .val (.int p5), .val (.int v5), .val (.int v11), .val (.int v13), .val (.ref b14), .val (.int v141), .val (.int v143), .val (.int v144), .val (.ref b145), .unset, .unset] [(.int v5), (.ref b145)])) _
        refine XS.ifYes X163.here hx rfl (pc0 := 169) (pc' := 176) rfl (hb hby at_169) rfl ((if0 _ _).trans (teq hc165_169).1) (by decide) (by decide) ?_
        show Steps p.tables e below (T163.setTop (mkF m 176 #[.val (.int p1), .val (.int p2), .val (.int p3), .val (.int p4), .val (.int p5), .val (.int v5), .val (.int v11), .val (.int v13), .val (.ref b14), .val (.int v141), .val (.int v143), .val (.int v144), .val (.ref b145), .unset, .unset] [(.ref b145)])) _
        refine XS.aload X163.here hx rfl (hb hby at_176) rfl rfl ?_
        show Steps p.tables e below (T163.setTop (mkF m 178 #[.val (.int p1), .val (.int p2), .val (.int p3), .val (.int p4), .val (.int p5), .val (.int v5), .val (.int v11), .val (.int v13), .val (.ref b14), .val (.int v141), .val (.int v143), .val (.int v144), .val (.ref b145), .unset, .unset] [(.ref b14), (.ref b145)])) _
        refine st166 _ ?_
        show Steps p.tables e below (T166.setTop (mkF m 181 #[.val (.int p1), .val (.int p2), .val (.int p3), .val (.int p4), .val (.int p5), .val (.int v5), .val (.int v11), .val (.int v13), .val (.ref b14), .val (.int v141), .val (.int v143), .val (.int v144), .val (.ref b145), .unset, .unset] [])) _
        refine XS.aload X166.here hx rfl (hb hby at_181) rfl rfl ?_
        show Steps p.tables e below (T166.setTop (mkF m 183 #[.val (.int p1), .val (.int p2), .val (.int p3), .val (.int p4), .val (.int p5), .val (.int v5), .val (.int v11), .val (.int v13), .val (.ref b14), .val (.int v141), .val (.int v143), .val (.int v144), .val (.ref b145), .unset, .unset] [(.ref b145)])) _
        refine XS.iload X166.here hx rfl (hb hby at_183) rfl ?_
        show Steps p.tables e below (T166.setTop (mkF m 185 #[.val (.int p1), .val (.int p2), .val (.int p3), .val (.int p4), .val (.int p5), .val (.int v5), .val (.int v11), .val (.int v13), .val (.ref b14), .val (.int v141), .val (.int v143), .val (.int v144), .val (.ref b145), .unset, .unset] [(.int v141), (.ref b145)])) _
        refine st169 _ ?_
        show Steps p.tables e below (T169.setTop (mkF m 188 #[.val (.int p1), .val (.int p2), .val (.int p3), .val (.int p4), .val (.int p5), .val (.int v5), .val (.int v11), .val (.int v13), .val (.ref b14), .val (.int v141), .val (.int v143), .val (.int v144), .val (.ref b145), .unset, .unset] [])) _
        refine XS.aload X169.here hx rfl (hb hby at_188) rfl rfl ?_
        show Steps p.tables e below (T169.setTop (mkF m 190 #[.val (.int p1), .val (.int p2), .val (.int p3), .val (.int p4), .val (.int p5), .val (.int v5), .val (.int v11), .val (.int v13), .val (.ref b14), .val (.int v141), .val (.int v143), .val (.int v144), .val (.ref b145), .unset, .unset] [(.ref b145)])) _
        refine XS.iload X169.here hx rfl (hb hby at_190) rfl ?_
        show Steps p.tables e below (T169.setTop (mkF m 192 #[.val (.int p1), .val (.int p2), .val (.int p3), .val (.int p4), .val (.int p5), .val (.int v5), .val (.int v11), .val (.int v13), .val (.ref b14), .val (.int v141), .val (.int v143), .val (.int v144), .val (.ref b145), .unset, .unset] [(.int v143), (.ref b145)])) _
        refine st172 _ ?_
        show Steps p.tables e below (T172.setTop (mkF m 195 #[.val (.int p1), .val (.int p2), .val (.int p3), .val (.int p4), .val (.int p5), .val (.int v5), .val (.int v11), .val (.int v13), .val (.ref b14), .val (.int v141), .val (.int v143), .val (.int v144), .val (.ref b145), .unset, .unset] [])) _
        refine XS.aload X172.here hx rfl (hb hby at_195) rfl rfl ?_
        show Steps p.tables e below (T172.setTop (mkF m 197 #[.val (.int p1), .val (.int p2), .val (.int p3), .val (.int p4), .val (.int p5), .val (.int v5), .val (.int v11), .val (.int v13), .val (.ref b14), .val (.int v141), .val (.int v143), .val (.int v144), .val (.ref b145), .unset, .unset] [(.ref b145)])) _
        refine XS.iload X172.here hx rfl (hb hby at_197) rfl ?_
        exact ktx
      have hjj : ¬ (v141 + v144) < 0 ∧ (v141 + v144) < (8 : Int32) := by rw [hv_v141, hv_v144, hv_v143]; exact own_bd _ _ _
      have f174 := ((((f148.ext E145).wr W166).wr W169).wr W172)
      have f175 := ((((f150.ext E145).wr W166).wr W169).wr W172)
      have f176 := ((((f152.ext E145).wr W166).wr W169).wr W172)
      have f177 := ((((f154.ext E145).wr W166).wr W169).wr W172)
      have f178 := ((((f156.ext E145).wr W166).wr W169).wr W172)
      have f179 := ((((f158.ext E145).wr W166).wr W169).wr W172)
      have f180 := ((((f160.ext E145).wr W166).wr W169).wr W172)
      have f181 := ((((f162.ext E145).wr W166).wr W169).wr W172)
      have f182 := ((((((((((((((((((((Fq15.other W20 (Or.inl ne16)).keep Kq21 nin0).other W25 (Or.inl ne16)).keep Kq26 nin0).other W30 (Or.inl ne16)).keep Kq32 nin0).other W36 (Or.inl ne16)).keep Kq37 nin0).other W41 (Or.inl ne16)).keep Kq43 nin0).other W47 (Or.inl ne16)).keep Kq48 nin0).other W52 (Or.inl ne16)).keep Kq54 nin0).other W58 (Or.inl ne16)).other W140 (Or.inl ne16)).ext E145).other W166 (Or.inl ne147)).other W169 (Or.inl ne147)).other W172 (Or.inl ne147))
      have f183 := ((((((((((((((((((Fq21.other W25 (Or.inl ne22)).keep Kq26 nin0).other W30 (Or.inl ne22)).keep Kq32 nin0).other W36 (Or.inl ne22)).keep Kq37 nin0).other W41 (Or.inl ne22)).keep Kq43 nin0).other W47 (Or.inl ne22)).keep Kq48 nin0).other W52 (Or.inl ne22)).keep Kq54 nin0).other W58 (Or.inl ne22)).other W140 (Or.inl ne22)).ext E145).other W166 (Or.inl ne149)).other W169 (Or.inl ne149)).other W172 (Or.inl ne149))
      have f184 := ((((((((((((((((Fq26.other W30 (Or.inl ne27)).keep Kq32 nin0).other W36 (Or.inl ne27)).keep Kq37 nin0).other W41 (Or.inl ne27)).keep Kq43 nin0).other W47 (Or.inl ne27)).keep Kq48 nin0).other W52 (Or.inl ne27)).keep Kq54 nin0).other W58 (Or.inl ne27)).other W140 (Or.inl ne27)).ext E145).other W166 (Or.inl ne151)).other W169 (Or.inl ne151)).other W172 (Or.inl ne151))
      have f185 := ((((((((((((((Fq32.other W36 (Or.inl ne33)).keep Kq37 nin0).other W41 (Or.inl ne33)).keep Kq43 nin0).other W47 (Or.inl ne33)).keep Kq48 nin0).other W52 (Or.inl ne33)).keep Kq54 nin0).other W58 (Or.inl ne33)).other W140 (Or.inl ne33)).ext E145).other W166 (Or.inl ne153)).other W169 (Or.inl ne153)).other W172 (Or.inl ne153))
      have f186 := ((((((((((((Fq37.other W41 (Or.inl ne38)).keep Kq43 nin0).other W47 (Or.inl ne38)).keep Kq48 nin0).other W52 (Or.inl ne38)).keep Kq54 nin0).other W58 (Or.inl ne38)).other W140 (Or.inl ne38)).ext E145).other W166 (Or.inl ne155)).other W169 (Or.inl ne155)).other W172 (Or.inl ne155))
      have f187 := ((((((((((Fq43.other W47 (Or.inl ne44)).keep Kq48 nin0).other W52 (Or.inl ne44)).keep Kq54 nin0).other W58 (Or.inl ne44)).other W140 (Or.inl ne44)).ext E145).other W166 (Or.inl ne157)).other W169 (Or.inl ne157)).other W172 (Or.inl ne157))
      have f188 := ((((((((Fq48.other W52 (Or.inl ne49)).keep Kq54 nin0).other W58 (Or.inl ne49)).other W140 (Or.inl ne49)).ext E145).other W166 (Or.inl ne159)).other W169 (Or.inl ne159)).other W172 (Or.inl ne159))
      have f189 := ((((((Fq54.other W58 (Or.inl ne55)).other W140 (Or.inl ne55)).ext E145).other W166 (Or.inl ne161)).other W169 (Or.inl ne161)).other W172 (Or.inl ne161))
      obtain ⟨bx, hbx, Ebx, Fbx⟩ : ∃ bx : Addr, ([(.ref b15), (.ref b21), (.ref b26), (.ref b32), (.ref b37), (.ref b43), (.ref b48), (.ref b54)] : List Value).getD (v141 + v144).toNatClampNeg .null = .ref bx ∧ Exa Z h172 bx "java/lang/Integer" ∧ Fld Z h172 bx "java/lang/Integer" "value" "I" (.int (p2 + (v141 + v144))) := by
        generalize (v141 + v144) = jj at hjj ⊢
        rcases own_eight jj hjj.1 hjj.2 with rfl | rfl | rfl | rfl | rfl | rfl | rfl | rfl
        · exact ⟨b15, rfl, f174, by simpa using f182⟩
        · exact ⟨b21, rfl, f175, f183⟩
        · exact ⟨b26, rfl, f176, f184⟩
        · exact ⟨b32, rfl, f177, f185⟩
        · exact ⟨b37, rfl, f178, f186⟩
        · exact ⟨b43, rfl, f179, f187⟩
        · exact ⟨b48, rfl, f180, f188⟩
        · exact ⟨b54, rfl, f181, f189⟩
      by_cases hna : (v141 + v144) = v13
      · have hvv : (([(.ref b15), (.ref b21), (.ref b26), (.ref b32), (.ref b37), (.ref b43), (.ref b48), (.ref b54)] : List Value).set v13.toNatClampNeg .null).getD (v141 + v144).toNatClampNeg .null = .null := by rw [hna]; exact own_hit _ _ _ _ (own_cl h7.1 h7.2)
        have f191 := ((Fw166.other W169 (Or.inr (slot_ne (Or.inl (hw _ (List.mem_of_getElem? (i := 21) rfl))) (Or.inl (hw _ (List.mem_of_getElem? (i := 23) rfl))) (by decide) (t := (.array (.object "java/lang/Object"))) (t' := .int) (by decide) (by decide)))).other W172 (Or.inr (slot_ne (Or.inl (hw _ (List.mem_of_getElem? (i := 21) rfl))) (Or.inl (hw _ (List.mem_of_getElem? (i := 25) rfl))) (by decide) (t := (.array (.object "java/lang/Object"))) (t' := .int) (by decide) (by decide))))
        have f192 := (Fw169.other W172 (Or.inr (slot_ne (Or.inl (hw _ (List.mem_of_getElem? (i := 23) rfl))) (Or.inl (hw _ (List.mem_of_getElem? (i := 25) rfl))) (by decide) (t := .int) (t' := .int) (by decide) (by decide))))
        have f193 := ((((V140.ext E145).other W166 ne146).other W169 ne146).other W172 ne146)
        have f194 := (f171.wr W172)
        obtain ⟨cq190, kq190, q190a, q190b, q190c⟩ := isOf hZ e172 f194
        obtain ⟨_, _, ⟨T190, L190, k190, n190⟩, -, X190, ⟨Lc190, hQ190, l190, y190, z190⟩, st190⟩ := X172.virtualBack hx (y := (⟨"com/example/wilt/wilt/core/ExpirySlots$Run", "first", "(I)Ljava/lang/Object;"⟩ : MethodName)) (z := (⟨"com/example/wilt/wilt/core/ExpirySlots$Run", "first", "(I)Ljava/lang/Object;"⟩ : MethodName)) hown (mvT hZ (hw _ (List.mem_of_getElem? (i := 26) rfl))) (mvT hZ (hw _ (List.mem_of_getElem? (i := 27) rfl))) (notFace_of_selects (args := #[]) (mvT hZ (hw _ (List.mem_of_getElem? (i := 29) rfl)))) (mvT hZ (hw _ (List.mem_of_getElem? (i := 29) rfl))) (mvT hZ (hw _ (List.mem_of_getElem? (i := 28) rfl))) (by decide) (backOf (W := 0) (rmF0 l Z a0 hw [] b145 v144 b14 v141 k14 (([(.ref b15), (.ref b21), (.ref b26), (.ref b32), (.ref b37), (.ref b43), (.ref b48), (.ref b54)] : List Value).set v13.toNatClampNeg .null) h172 n0 Z172 f191 f192 f193 hjj hvv) hZ (hw _ (List.mem_of_getElem? (i := 30) rfl)) (hw _ (List.mem_of_getElem? (i := 13) rfl)) (by decide) (by decide)) q190a q190c (g := (mkF m 199 #[.val (.int p1), .val (.int p2), .val (.int p3), .val (.int p4), .val (.int p5), .val (.int v5), .val (.int v11), .val (.int v13), .val (.ref b14), .val (.int v141), .val (.int v143), .val (.int v144), .val (.ref b145), .unset, .unset] [(.int v144), (.ref b145)])) rfl (by rw [hml]; rfl) (Steps.refl _) (argsL := [(.int v144)]) (rest := []) (lenOf own_pd3 rfl) rfl (by show 2 * 0 + _ ≤ _; exact Nat.le_of_eq rfl) (hb hby at_199) (fun _ _ => ⟨rfl, e172, (by decide : 10 + 0 ≤ _), (by decide : 25 + 0 ≤ _)⟩)
        dsimp only [Pt.U, Pt.locs, Pt.cells, Pt.slots] at X190 l190 y190 z190 st190 hQ190
        rw [l190, y190, z190] at X190
        obtain ⟨rfl, Nq190, e190⟩ := hQ190
        have N190 := Fr.app N172 Nq190
        obtain ⟨v195, hv_v195⟩ : ∃ z : Int32, z = (v141 + v144) := ⟨_, rfl⟩
        have hc196_213 : v5 = (0 : Int32) := hc165_169
        have hc197_229 : ¬ (v11 = (0 : Int32)) := hc60_125
        have hc198_236 : v195 = v13 := by rw [hv_v195]; exact hna
        have go199 : own_go p e below (s₁.setTop (entryFrame m #[(.int p1), (.int p2), (.int p3), (.int p4), (.int p5)] maxLocals)) (T190.setTop (mkF m 241 #[.val (.int p1), .val (.int p2), .val (.int p3), .val (.int p4), .val (.int p5), .val (.int v5), .val (.int v11), .val (.int v13), .val (.ref b14), .val (.int v141), .val (.int v143), .val (.int v144), .val (.ref b145), .val .null, .val (.int v195)] [.null])) := by
          intro ttx ktx
          refine go173 ttx ?_
          show Steps p.tables e below (T172.setTop (mkF m 199 #[.val (.int p1), .val (.int p2), .val (.int p3), .val (.int p4), .val (.int p5), .val (.int v5), .val (.int v11), .val (.int v13), .val (.ref b14), .val (.int v141), .val (.int v143), .val (.int v144), .val (.ref b145), .unset, .unset] [(.int v144), (.ref b145)])) _
          refine st190.trans ?_
          show Steps p.tables e below (T190.setTop (mkF m 202 #[.val (.int p1), .val (.int p2), .val (.int p3), .val (.int p4), .val (.int p5), .val (.int v5), .val (.int v11), .val (.int v13), .val (.ref b14), .val (.int v141), .val (.int v143), .val (.int v144), .val (.ref b145), .unset, .unset] [.null])) _
          refine XS.astore X190.here hx rfl (hb hby at_202) rfl rfl (l' := #[.val (.int p1), .val (.int p2), .val (.int p3), .val (.int p4), .val (.int p5), .val (.int v5), .val (.int v11), .val (.int v13), .val (.ref b14), .val (.int v141), .val (.int v143), .val (.int v144), .val (.ref b145), .val .null, .unset]) rfl ?_
          show Steps p.tables e below (T190.setTop (mkF m 204 #[.val (.int p1), .val (.int p2), .val (.int p3), .val (.int p4), .val (.int p5), .val (.int v5), .val (.int v11), .val (.int v13), .val (.ref b14), .val (.int v141), .val (.int v143), .val (.int v144), .val (.ref b145), .val .null, .unset] [])) _
          refine XS.iload X190.here hx rfl (hb hby at_204) rfl ?_
          show Steps p.tables e below (T190.setTop (mkF m 206 #[.val (.int p1), .val (.int p2), .val (.int p3), .val (.int p4), .val (.int p5), .val (.int v5), .val (.int v11), .val (.int v13), .val (.ref b14), .val (.int v141), .val (.int v143), .val (.int v144), .val (.ref b145), .val .null, .unset] [(.int v141)])) _
          refine XS.iload X190.here hx rfl (hb hby at_206) rfl ?_
          show Steps p.tables e below (T190.setTop (mkF m 208 #[.val (.int p1), .val (.int p2), .val (.int p3), .val (.int p4), .val (.int p5), .val (.int v5), .val (.int v11), .val (.int v13), .val (.ref b14), .val (.int v141), .val (.int v143), .val (.int v144), .val (.ref b145), .val .null, .unset] [(.int v144), (.int v141)])) _
          refine XS.iadd X190.here hx rfl (hb hby at_208) rfl ?_
          show Steps p.tables e below (T190.setTop (mkF m 209 #[.val (.int p1), .val (.int p2), .val (.int p3), .val (.int p4), .val (.int p5), .val (.int v5), .val (.int v11), .val (.int v13), .val (.ref b14), .val (.int v141), .val (.int v143), .val (.int v144), .val (.ref b145), .val .null, .unset] [(.int (v141 + v144))])) _
          rw [← hv_v195]
          show Steps p.tables e below (T190.setTop (mkF m 209 #[.val (.int p1), .val (.int p2), .val (.int p3), .val (.int p4), .val (.int p5), .val (.int v5), .val (.int v11), .val (.int v13), .val (.ref b14), .val (.int v141), .val (.int v143), .val (.int v144), .val (.ref b145), .val .null, .unset] [(.int v195)])) _
          refine XS.istore X190.here hx rfl (hb hby at_209) rfl (l' := #[.val (.int p1), .val (.int p2), .val (.int p3), .val (.int p4), .val (.int p5), .val (.int v5), .val (.int v11), .val (.int v13), .val (.ref b14), .val (.int v141), .val (.int v143), .val (.int v144), .val (.ref b145), .val .null, .val (.int v195)]) rfl ?_
          show Steps p.tables e below (T190.setTop (mkF m 211 #[.val (.int p1), .val (.int p2), .val (.int p3), .val (.int p4), .val (.int p5), .val (.int v5), .val (.int v11), .val (.int v13), .val (.ref b14), .val (.int v141), .val (.int v143), .val (.int v144), .val (.ref b145), .val .null, .val (.int v195)] [])) _
          refine XS.iload X190.here hx rfl (hb hby at_211) rfl ?_
          show Steps p.tables e below (T190.setTop (mkF m 213 #[.val (.int p1), .val (.int p2), .val (.int p3), .val (.int p4), .val (.int p5), .val (.int v5), .val (.int v11), .val (.int v13), .val (.ref b14), .val (.int v141), .val (.int v143), .val (.int v144), .val (.ref b145), .val .null, .val (.int v195)] [(.int v5)])) _
          refine XS.ifYes X190.here hx rfl (pc0 := 213) (pc' := 227) rfl (hb hby at_213) rfl ((if0 _ _).trans (teq hc196_213).1) (by decide) (by decide) ?_
          show Steps p.tables e below (T190.setTop (mkF m 227 #[.val (.int p1), .val (.int p2), .val (.int p3), .val (.int p4), .val (.int p5), .val (.int v5), .val (.int v11), .val (.int v13), .val (.ref b14), .val (.int v141), .val (.int v143), .val (.int v144), .val (.ref b145), .val .null, .val (.int v195)] [])) _
          refine XS.iload X190.here hx rfl (hb hby at_227) rfl ?_
          show Steps p.tables e below (T190.setTop (mkF m 229 #[.val (.int p1), .val (.int p2), .val (.int p3), .val (.int p4), .val (.int p5), .val (.int v5), .val (.int v11), .val (.int v13), .val (.ref b14), .val (.int v141), .val (.int v143), .val (.int v144), .val (.ref b145), .val .null, .val (.int v195)] [(.int v11)])) _
          refine XS.ifNo X190.here hx rfl (hb hby at_229) rfl ((if0 _ _).trans (feq hc197_229).1) ?_
          show Steps p.tables e below (T190.setTop (mkF m 232 #[.val (.int p1), .val (.int p2), .val (.int p3), .val (.int p4), .val (.int p5), .val (.int v5), .val (.int v11), .val (.int v13), .val (.ref b14), .val (.int v141), .val (.int v143), .val (.int v144), .val (.ref b145), .val .null, .val (.int v195)] [])) _
          refine XS.iload X190.here hx rfl (hb hby at_232) rfl ?_
          show Steps p.tables e below (T190.setTop (mkF m 234 #[.val (.int p1), .val (.int p2), .val (.int p3), .val (.int p4), .val (.int p5), .val (.int v5), .val (.int v11), .val (.int v13), .val (.ref b14), .val (.int v141), .val (.int v143), .val (.int v144), .val (.ref b145), .val .null, .val (.int v195)] [(.int v195)])) _
          refine XS.iload X190.here hx rfl (hb hby at_234) rfl ?_
          show Steps p.tables e below (T190.setTop (mkF m 236 #[.val (.int p1), .val (.int p2), .val (.int p3), .val (.int p4), .val (.int p5), .val (.int v5), .val (.int v11), .val (.int v13), .val (.ref b14), .val (.int v141), .val (.int v143), .val (.int v144), .val (.ref b145), .val .null, .val (.int v195)] [(.int v13), (.int v195)])) _
          refine XS.icmpNo X190.here hx rfl (hb hby at_236) rfl (teq hc198_236).2 ?_
          show Steps p.tables e below (T190.setTop (mkF m 239 #[.val (.int p1), .val (.int p2), .val (.int p3), .val (.int p4), .val (.int p5), .val (.int v5), .val (.int v11), .val (.int v13), .val (.ref b14), .val (.int v141), .val (.int v143), .val (.int v144), .val (.ref b145), .val .null, .val (.int v195)] [])) _
          refine XS.aload X190.here hx rfl (hb hby at_239) rfl rfl ?_
          exact ktx
        have go200 : own_go p e below (s₁.setTop (entryFrame m #[(.int p1), (.int p2), (.int p3), (.int p4), (.int p5)] maxLocals)) (T190.setTop (mkF m 249 #[.val (.int p1), .val (.int p2), .val (.int p3), .val (.int p4), .val (.int p5), .val (.int v5), .val (.int v11), .val (.int v13), .val (.ref b14), .val (.int v141), .val (.int v143), .val (.int v144), .val (.ref b145), .val .null, .val (.int v195)] [(.int (1 : Int32))])) := by
          intro ttx ktx
          refine go199 ttx ?_
          show Steps p.tables e below (T190.setTop (mkF m 241 #[.val (.int p1), .val (.int p2), .val (.int p3), .val (.int p4), .val (.int p5), .val (.int v5), .val (.int v11), .val (.int v13), .val (.ref b14), .val (.int v141), .val (.int v143), .val (.int v144), .val (.ref b145), .val .null, .val (.int v195)] [.null])) _
          refine XS.ifnonnullNo X190.here hx rfl (hb hby at_241) rfl ?_
          show Steps p.tables e below (T190.setTop (mkF m 244 #[.val (.int p1), .val (.int p2), .val (.int p3), .val (.int p4), .val (.int p5), .val (.int v5), .val (.int v11), .val (.int v13), .val (.ref b14), .val (.int v141), .val (.int v143), .val (.int v144), .val (.ref b145), .val .null, .val (.int v195)] [])) _
          refine XS.iconst X190.here hx rfl (hb hby at_244) ?_
          show Steps p.tables e below (T190.setTop (mkF m 245 #[.val (.int p1), .val (.int p2), .val (.int p3), .val (.int p4), .val (.int p5), .val (.int v5), .val (.int v11), .val (.int v13), .val (.ref b14), .val (.int v141), .val (.int v143), .val (.int v144), .val (.ref b145), .val .null, .val (.int v195)] [(.int (1 : Int32))])) _
          refine XS.goto X190.here hx rfl (pc0 := 245) (pc' := 249) rfl (hb hby at_245) (by decide) (by decide) ?_
          exact ktx
        obtain ⟨fs, hr, hrun, hended, hW, hsame⟩ := X190.leave (v := some (.int (1 : Int32))) (fun h => by rw [Bd.returns] at h; cases h)
        refine ⟨_, _, go200 _ ?_, hrun, hended, _, _, rfl, ?_, ⟨_, rfl⟩, hW, hsame.mono (by decide) (by decide)⟩
        · exact retN X190 hx (t := .boolean) Bd.returns (by simp) (hb hby at_249) hr
        · show Q0 Z p1 p2 p3 p4 p5 h0 n0 _ T190.heap _
          rw [e190]
          exact ⟨rfl, N190⟩
      · have hvv : (([(.ref b15), (.ref b21), (.ref b26), (.ref b32), (.ref b37), (.ref b43), (.ref b48), (.ref b54)] : List Value).set v13.toNatClampNeg .null).getD (v141 + v144).toNatClampNeg .null = .ref bx := by rw [own_miss _ _ _ _ _ (fun q => hna (own_inj hjj.1 h7.1 q.symm))]; exact hbx
        have f202 := ((Fw166.other W169 (Or.inr (slot_ne (Or.inl (hw _ (List.mem_of_getElem? (i := 21) rfl))) (Or.inl (hw _ (List.mem_of_getElem? (i := 23) rfl))) (by decide) (t := (.array (.object "java/lang/Object"))) (t' := .int) (by decide) (by decide)))).other W172 (Or.inr (slot_ne (Or.inl (hw _ (List.mem_of_getElem? (i := 21) rfl))) (Or.inl (hw _ (List.mem_of_getElem? (i := 25) rfl))) (by decide) (t := (.array (.object "java/lang/Object"))) (t' := .int) (by decide) (by decide))))
        have f203 := (Fw169.other W172 (Or.inr (slot_ne (Or.inl (hw _ (List.mem_of_getElem? (i := 23) rfl))) (Or.inl (hw _ (List.mem_of_getElem? (i := 25) rfl))) (by decide) (t := .int) (t' := .int) (by decide) (by decide))))
        have f204 := ((((V140.ext E145).other W166 ne146).other W169 ne146).other W172 ne146)
        have f205 := (f171.wr W172)
        obtain ⟨cq201, kq201, q201a, q201b, q201c⟩ := isOf hZ e172 f205
        obtain ⟨_, _, ⟨T201, L201, k201, n201⟩, -, X201, ⟨Lc201, hQ201, l201, y201, z201⟩, st201⟩ := X172.virtualBack hx (y := (⟨"com/example/wilt/wilt/core/ExpirySlots$Run", "first", "(I)Ljava/lang/Object;"⟩ : MethodName)) (z := (⟨"com/example/wilt/wilt/core/ExpirySlots$Run", "first", "(I)Ljava/lang/Object;"⟩ : MethodName)) hown (mvT hZ (hw _ (List.mem_of_getElem? (i := 26) rfl))) (mvT hZ (hw _ (List.mem_of_getElem? (i := 27) rfl))) (notFace_of_selects (args := #[]) (mvT hZ (hw _ (List.mem_of_getElem? (i := 29) rfl)))) (mvT hZ (hw _ (List.mem_of_getElem? (i := 29) rfl))) (mvT hZ (hw _ (List.mem_of_getElem? (i := 28) rfl))) (by decide) (backOf (W := 0) (rmF1 l Z a0 hw [] b145 v144 b14 v141 k14 (([(.ref b15), (.ref b21), (.ref b26), (.ref b32), (.ref b37), (.ref b43), (.ref b48), (.ref b54)] : List Value).set v13.toNatClampNeg .null) bx h172 n0 Z172 f202 f203 f204 hjj hvv) hZ (hw _ (List.mem_of_getElem? (i := 30) rfl)) (hw _ (List.mem_of_getElem? (i := 13) rfl)) (by decide) (by decide)) q201a q201c (g := (mkF m 199 #[.val (.int p1), .val (.int p2), .val (.int p3), .val (.int p4), .val (.int p5), .val (.int v5), .val (.int v11), .val (.int v13), .val (.ref b14), .val (.int v141), .val (.int v143), .val (.int v144), .val (.ref b145), .unset, .unset] [(.int v144), (.ref b145)])) rfl (by rw [hml]; rfl) (Steps.refl _) (argsL := [(.int v144)]) (rest := []) (lenOf own_pd3 rfl) rfl (by show 2 * 0 + _ ≤ _; exact Nat.le_of_eq rfl) (hb hby at_199) (fun _ _ => ⟨rfl, e172, (by decide : 10 + 0 ≤ _), (by decide : 25 + 0 ≤ _)⟩)
        dsimp only [Pt.U, Pt.locs, Pt.cells, Pt.slots] at X201 l201 y201 z201 st201 hQ201
        rw [l201, y201, z201] at X201
        obtain ⟨rfl, Nq201, e201⟩ := hQ201
        have N201 := Fr.app N172 Nq201
        obtain ⟨v206, hv_v206⟩ : ∃ z : Int32, z = (v141 + v144) := ⟨_, rfl⟩
        have hc207_213 : v5 = (0 : Int32) := hc165_169
        have hc208_229 : ¬ (v11 = (0 : Int32)) := hc60_125
        have hc209_236 : ¬ (v206 = v13) := by rw [hv_v206]; exact hna
        have go210 : own_go p e below (s₁.setTop (entryFrame m #[(.int p1), (.int p2), (.int p3), (.int p4), (.int p5)] maxLocals)) (T201.setTop (mkF m 252 #[.val (.int p1), .val (.int p2), .val (.int p3), .val (.int p4), .val (.int p5), .val (.int v5), .val (.int v11), .val (.int v13), .val (.ref b14), .val (.int v141), .val (.int v143), .val (.int v144), .val (.ref b145), .val (.ref bx), .val (.int v206)] [(.ref bx)])) := by
          intro ttx ktx
          refine go173 ttx ?_
          show Steps p.tables e below (T172.setTop (mkF m 199 #[.val (.int p1), .val (.int p2), .val (.int p3), .val (.int p4), .val (.int p5), .val (.int v5), .val (.int v11), .val (.int v13), .val (.ref b14), .val (.int v141), .val (.int v143), .val (.int v144), .val (.ref b145), .unset, .unset] [(.int v144), (.ref b145)])) _
          refine st201.trans ?_
          show Steps p.tables e below (T201.setTop (mkF m 202 #[.val (.int p1), .val (.int p2), .val (.int p3), .val (.int p4), .val (.int p5), .val (.int v5), .val (.int v11), .val (.int v13), .val (.ref b14), .val (.int v141), .val (.int v143), .val (.int v144), .val (.ref b145), .unset, .unset] [(.ref bx)])) _
          refine XS.astore X201.here hx rfl (hb hby at_202) rfl rfl (l' := #[.val (.int p1), .val (.int p2), .val (.int p3), .val (.int p4), .val (.int p5), .val (.int v5), .val (.int v11), .val (.int v13), .val (.ref b14), .val (.int v141), .val (.int v143), .val (.int v144), .val (.ref b145), .val (.ref bx), .unset]) rfl ?_
          show Steps p.tables e below (T201.setTop (mkF m 204 #[.val (.int p1), .val (.int p2), .val (.int p3), .val (.int p4), .val (.int p5), .val (.int v5), .val (.int v11), .val (.int v13), .val (.ref b14), .val (.int v141), .val (.int v143), .val (.int v144), .val (.ref b145), .val (.ref bx), .unset] [])) _
          refine XS.iload X201.here hx rfl (hb hby at_204) rfl ?_
          show Steps p.tables e below (T201.setTop (mkF m 206 #[.val (.int p1), .val (.int p2), .val (.int p3), .val (.int p4), .val (.int p5), .val (.int v5), .val (.int v11), .val (.int v13), .val (.ref b14), .val (.int v141), .val (.int v143), .val (.int v144), .val (.ref b145), .val (.ref bx), .unset] [(.int v141)])) _
          refine XS.iload X201.here hx rfl (hb hby at_206) rfl ?_
          show Steps p.tables e below (T201.setTop (mkF m 208 #[.val (.int p1), .val (.int p2), .val (.int p3), .val (.int p4), .val (.int p5), .val (.int v5), .val (.int v11), .val (.int v13), .val (.ref b14), .val (.int v141), .val (.int v143), .val (.int v144), .val (.ref b145), .val (.ref bx), .unset] [(.int v144), (.int v141)])) _
          refine XS.iadd X201.here hx rfl (hb hby at_208) rfl ?_
          show Steps p.tables e below (T201.setTop (mkF m 209 #[.val (.int p1), .val (.int p2), .val (.int p3), .val (.int p4), .val (.int p5), .val (.int v5), .val (.int v11), .val (.int v13), .val (.ref b14), .val (.int v141), .val (.int v143), .val (.int v144), .val (.ref b145), .val (.ref bx), .unset] [(.int (v141 + v144))])) _
          rw [← hv_v206]
          show Steps p.tables e below (T201.setTop (mkF m 209 #[.val (.int p1), .val (.int p2), .val (.int p3), .val (.int p4), .val (.int p5), .val (.int v5), .val (.int v11), .val (.int v13), .val (.ref b14), .val (.int v141), .val (.int v143), .val (.int v144), .val (.ref b145), .val (.ref bx), .unset] [(.int v206)])) _
          refine XS.istore X201.here hx rfl (hb hby at_209) rfl (l' := #[.val (.int p1), .val (.int p2), .val (.int p3), .val (.int p4), .val (.int p5), .val (.int v5), .val (.int v11), .val (.int v13), .val (.ref b14), .val (.int v141), .val (.int v143), .val (.int v144), .val (.ref b145), .val (.ref bx), .val (.int v206)]) rfl ?_
          show Steps p.tables e below (T201.setTop (mkF m 211 #[.val (.int p1), .val (.int p2), .val (.int p3), .val (.int p4), .val (.int p5), .val (.int v5), .val (.int v11), .val (.int v13), .val (.ref b14), .val (.int v141), .val (.int v143), .val (.int v144), .val (.ref b145), .val (.ref bx), .val (.int v206)] [])) _
          refine XS.iload X201.here hx rfl (hb hby at_211) rfl ?_
          show Steps p.tables e below (T201.setTop (mkF m 213 #[.val (.int p1), .val (.int p2), .val (.int p3), .val (.int p4), .val (.int p5), .val (.int v5), .val (.int v11), .val (.int v13), .val (.ref b14), .val (.int v141), .val (.int v143), .val (.int v144), .val (.ref b145), .val (.ref bx), .val (.int v206)] [(.int v5)])) _
          refine XS.ifYes X201.here hx rfl (pc0 := 213) (pc' := 227) rfl (hb hby at_213) rfl ((if0 _ _).trans (teq hc207_213).1) (by decide) (by decide) ?_
          show Steps p.tables e below (T201.setTop (mkF m 227 #[.val (.int p1), .val (.int p2), .val (.int p3), .val (.int p4), .val (.int p5), .val (.int v5), .val (.int v11), .val (.int v13), .val (.ref b14), .val (.int v141), .val (.int v143), .val (.int v144), .val (.ref b145), .val (.ref bx), .val (.int v206)] [])) _
          refine XS.iload X201.here hx rfl (hb hby at_227) rfl ?_
          show Steps p.tables e below (T201.setTop (mkF m 229 #[.val (.int p1), .val (.int p2), .val (.int p3), .val (.int p4), .val (.int p5), .val (.int v5), .val (.int v11), .val (.int v13), .val (.ref b14), .val (.int v141), .val (.int v143), .val (.int v144), .val (.ref b145), .val (.ref bx), .val (.int v206)] [(.int v11)])) _
          refine XS.ifNo X201.here hx rfl (hb hby at_229) rfl ((if0 _ _).trans (feq hc208_229).1) ?_
          show Steps p.tables e below (T201.setTop (mkF m 232 #[.val (.int p1), .val (.int p2), .val (.int p3), .val (.int p4), .val (.int p5), .val (.int v5), .val (.int v11), .val (.int v13), .val (.ref b14), .val (.int v141), .val (.int v143), .val (.int v144), .val (.ref b145), .val (.ref bx), .val (.int v206)] [])) _
          refine XS.iload X201.here hx rfl (hb hby at_232) rfl ?_
          show Steps p.tables e below (T201.setTop (mkF m 234 #[.val (.int p1), .val (.int p2), .val (.int p3), .val (.int p4), .val (.int p5), .val (.int v5), .val (.int v11), .val (.int v13), .val (.ref b14), .val (.int v141), .val (.int v143), .val (.int v144), .val (.ref b145), .val (.ref bx), .val (.int v206)] [(.int v206)])) _
          refine XS.iload X201.here hx rfl (hb hby at_234) rfl ?_
          show Steps p.tables e below (T201.setTop (mkF m 236 #[.val (.int p1), .val (.int p2), .val (.int p3), .val (.int p4), .val (.int p5), .val (.int v5), .val (.int v11), .val (.int v13), .val (.ref b14), .val (.int v141), .val (.int v143), .val (.int v144), .val (.ref b145), .val (.ref bx), .val (.int v206)] [(.int v13), (.int v206)])) _
          refine XS.icmpYes X201.here hx rfl (pc0 := 236) (pc' := 250) rfl (hb hby at_236) rfl (feq hc209_236).2 (by decide) (by decide) ?_
          show Steps p.tables e below (T201.setTop (mkF m 250 #[.val (.int p1), .val (.int p2), .val (.int p3), .val (.int p4), .val (.int p5), .val (.int v5), .val (.int v11), .val (.int v13), .val (.ref b14), .val (.int v141), .val (.int v143), .val (.int v144), .val (.ref b145), .val (.ref bx), .val (.int v206)] [])) _
          refine XS.aload X201.here hx rfl (hb hby at_250) rfl rfl ?_
          exact ktx
        obtain ⟨T211, X211, e211, st211⟩ := instY X201 hx hZ hown (hw _ (List.mem_of_getElem? (i := 33) rfl)) e201 (Ins.self Ebx) (g := (mkF m 252 #[.val (.int p1), .val (.int p2), .val (.int p3), .val (.int p4), .val (.int p5), .val (.int v5), .val (.int v11), .val (.int v13), .val (.ref b14), .val (.int v141), .val (.int v143), .val (.int v144), .val (.ref b145), .val (.ref bx), .val (.int v206)] [(.ref bx)])) rfl rfl (hb hby at_252)
        have hc212_255 : ¬ ((1 : Int32) = (0 : Int32)) := (by decide)
        obtain ⟨T213, X213, e213, st213⟩ := castY X211 hx hZ hown (hw _ (List.mem_of_getElem? (i := 33) rfl)) e211 (Ins.self Ebx) (g := (mkF m 262 #[.val (.int p1), .val (.int p2), .val (.int p3), .val (.int p4), .val (.int p5), .val (.int v5), .val (.int v11), .val (.int v13), .val (.ref b14), .val (.int v141), .val (.int v143), .val (.int v144), .val (.ref b145), .val (.ref bx), .val (.int v206)] [(.ref bx)])) rfl rfl (hb hby at_262)
        obtain ⟨cq214, kq214, q214a, q214b, q214c⟩ := isOf hZ e213 Ebx
        obtain ⟨_, _, ⟨T214, L214, k214, n214⟩, -, X214, ⟨Lc214, hQ214, l214, y214, z214⟩, st214⟩ := X213.virtualBack hx (y := (⟨"java/lang/Integer", "intValue", "()I"⟩ : MethodName)) (z := (⟨"java/lang/Integer", "intValue", "()I"⟩ : MethodName)) hown (mvT hZ (hw _ (List.mem_of_getElem? (i := 35) rfl))) (mvT hZ (hw _ (List.mem_of_getElem? (i := 36) rfl))) (notFace_of_selects (args := #[]) (mvT hZ (hw _ (List.mem_of_getElem? (i := 38) rfl)))) (mvT hZ (hw _ (List.mem_of_getElem? (i := 38) rfl))) (mvT hZ (hw _ (List.mem_of_getElem? (i := 37) rfl))) (by decide) (backOf (W := 0) (rm5 l Z a0 hw [] bx (p2 + (v141 + v144)) h172 n0 Z172 Fbx) hZ (hw _ (List.mem_of_getElem? (i := 39) rfl)) (hw _ (List.mem_of_getElem? (i := 4) rfl)) (by decide) (by decide)) q214a q214c (g := (mkF m 265 #[.val (.int p1), .val (.int p2), .val (.int p3), .val (.int p4), .val (.int p5), .val (.int v5), .val (.int v11), .val (.int v13), .val (.ref b14), .val (.int v141), .val (.int v143), .val (.int v144), .val (.ref b145), .val (.ref bx), .val (.int v206)] [(.ref bx)])) rfl (by rw [hml]; rfl) (Steps.refl _) (argsL := []) (rest := []) (lenOf own_pd4 rfl) rfl (by show 2 * 0 + _ ≤ _; exact Nat.le_of_eq rfl) (hb hby at_265) (fun _ _ => ⟨rfl, e213, (by decide : 10 + 0 ≤ _), (by decide : 25 + 0 ≤ _)⟩)
        dsimp only [Pt.U, Pt.locs, Pt.cells, Pt.slots] at X214 l214 y214 z214 st214 hQ214
        rw [l214, y214, z214] at X214
        obtain ⟨rfl, Nq214, e214⟩ := hQ214
        have N214 := Fr.app N201 Nq214
        have hc215_272 : (p2 + (v141 + v144)) = (p2 + v206) := by rw [hv_v206]
        have go216 : own_go p e below (s₁.setTop (entryFrame m #[(.int p1), (.int p2), (.int p3), (.int p4), (.int p5)] maxLocals)) (T214.setTop (mkF m 280 #[.val (.int p1), .val (.int p2), .val (.int p3), .val (.int p4), .val (.int p5), .val (.int v5), .val (.int v11), .val (.int v13), .val (.ref b14), .val (.int v141), .val (.int v143), .val (.int v144), .val (.ref b145), .val (.ref bx), .val (.int v206)] [(.int (1 : Int32))])) := by
          intro ttx ktx
          refine go210 ttx ?_
          show Steps p.tables e below (T201.setTop (mkF m 252 #[.val (.int p1), .val (.int p2), .val (.int p3), .val (.int p4), .val (.int p5), .val (.int v5), .val (.int v11), .val (.int v13), .val (.ref b14), .val (.int v141), .val (.int v143), .val (.int v144), .val (.ref b145), .val (.ref bx), .val (.int v206)] [(.ref bx)])) _
          refine st211 _ ?_
          show Steps p.tables e below (T211.setTop (mkF m 255 #[.val (.int p1), .val (.int p2), .val (.int p3), .val (.int p4), .val (.int p5), .val (.int v5), .val (.int v11), .val (.int v13), .val (.ref b14), .val (.int v141), .val (.int v143), .val (.int v144), .val (.ref b145), .val (.ref bx), .val (.int v206)] [(.int (1 : Int32))])) _
          refine XS.ifYes X211.here hx rfl (pc0 := 255) (pc' := 260) rfl (hb hby at_255) rfl ((if0 _ _).trans (feq hc212_255).2) (by decide) (by decide) ?_
          show Steps p.tables e below (T211.setTop (mkF m 260 #[.val (.int p1), .val (.int p2), .val (.int p3), .val (.int p4), .val (.int p5), .val (.int v5), .val (.int v11), .val (.int v13), .val (.ref b14), .val (.int v141), .val (.int v143), .val (.int v144), .val (.ref b145), .val (.ref bx), .val (.int v206)] [])) _
          refine XS.aload X211.here hx rfl (hb hby at_260) rfl rfl ?_
          show Steps p.tables e below (T211.setTop (mkF m 262 #[.val (.int p1), .val (.int p2), .val (.int p3), .val (.int p4), .val (.int p5), .val (.int v5), .val (.int v11), .val (.int v13), .val (.ref b14), .val (.int v141), .val (.int v143), .val (.int v144), .val (.ref b145), .val (.ref bx), .val (.int v206)] [(.ref bx)])) _
          refine st213 _ ?_
          show Steps p.tables e below (T213.setTop (mkF m 265 #[.val (.int p1), .val (.int p2), .val (.int p3), .val (.int p4), .val (.int p5), .val (.int v5), .val (.int v11), .val (.int v13), .val (.ref b14), .val (.int v141), .val (.int v143), .val (.int v144), .val (.ref b145), .val (.ref bx), .val (.int v206)] [(.ref bx)])) _
          refine st214.trans ?_
          show Steps p.tables e below (T214.setTop (mkF m 268 #[.val (.int p1), .val (.int p2), .val (.int p3), .val (.int p4), .val (.int p5), .val (.int v5), .val (.int v11), .val (.int v13), .val (.ref b14), .val (.int v141), .val (.int v143), .val (.int v144), .val (.ref b145), .val (.ref bx), .val (.int v206)] [(.int (p2 + (v141 + v144)))])) _
          refine XS.iloadN X214.here hx rfl (hb hby at_268) rfl ?_
          show Steps p.tables e below (T214.setTop (mkF m 269 #[.val (.int p1), .val (.int p2), .val (.int p3), .val (.int p4), .val (.int p5), .val (.int v5), .val (.int v11), .val (.int v13), .val (.ref b14), .val (.int v141), .val (.int v143), .val (.int v144), .val (.ref b145), .val (.ref bx), .val (.int v206)] [(.int p2), (.int (p2 + (v141 + v144)))])) _
          refine XS.iload X214.here hx rfl (hb hby at_269) rfl ?_
          show Steps p.tables e below (T214.setTop (mkF m 271 #[.val (.int p1), .val (.int p2), .val (.int p3), .val (.int p4), .val (.int p5), .val (.int v5), .val (.int v11), .val (.int v13), .val (.ref b14), .val (.int v141), .val (.int v143), .val (.int v144), .val (.ref b145), .val (.ref bx), .val (.int v206)] [(.int v206), (.int p2), (.int (p2 + (v141 + v144)))])) _
          refine XS.iadd X214.here hx rfl (hb hby at_271) rfl ?_
          show Steps p.tables e below (T214.setTop (mkF m 272 #[.val (.int p1), .val (.int p2), .val (.int p3), .val (.int p4), .val (.int p5), .val (.int v5), .val (.int v11), .val (.int v13), .val (.ref b14), .val (.int v141), .val (.int v143), .val (.int v144), .val (.ref b145), .val (.ref bx), .val (.int v206)] [(.int (p2 + v206)), (.int (p2 + (v141 + v144)))])) _
          refine XS.icmpNo X214.here hx rfl (hb hby at_272) rfl (teq hc215_272).2 ?_
          show Steps p.tables e below (T214.setTop (mkF m 275 #[.val (.int p1), .val (.int p2), .val (.int p3), .val (.int p4), .val (.int p5), .val (.int v5), .val (.int v11), .val (.int v13), .val (.ref b14), .val (.int v141), .val (.int v143), .val (.int v144), .val (.ref b145), .val (.ref bx), .val (.int v206)] [])) _
          refine XS.iconst X214.here hx rfl (hb hby at_275) ?_
          show Steps p.tables e below (T214.setTop (mkF m 276 #[.val (.int p1), .val (.int p2), .val (.int p3), .val (.int p4), .val (.int p5), .val (.int v5), .val (.int v11), .val (.int v13), .val (.ref b14), .val (.int v141), .val (.int v143), .val (.int v144), .val (.ref b145), .val (.ref bx), .val (.int v206)] [(.int (1 : Int32))])) _
          refine XS.goto X214.here hx rfl (pc0 := 276) (pc' := 280) rfl (hb hby at_276) (by decide) (by decide) ?_
          exact ktx
        obtain ⟨fs, hr, hrun, hended, hW, hsame⟩ := X214.leave (v := some (.int (1 : Int32))) (fun h => by rw [Bd.returns] at h; cases h)
        refine ⟨_, _, go216 _ ?_, hrun, hended, _, _, rfl, ?_, ⟨_, rfl⟩, hW, hsame.mono (by decide) (by decide)⟩
        · exact retN X214 hx (t := .boolean) Bd.returns (by simp) (hb hby at_280) hr
        · show Q0 Z p1 p2 p3 p4 p5 h0 n0 _ T214.heap _
          rw [e214]
          exact ⟨rfl, N214⟩
    · obtain ⟨T217, h217, X217, e217, W217, st217⟩ := putF X163 hx hZ hown (host := "") (Or.inl (hw _ (List.mem_of_getElem? (i := 20) rfl))) Via.refl e163 F145_firsts A145 (Or.inl (hw _ (List.mem_of_getElem? (i := 21) rfl))) (hw _ (List.mem_of_getElem? (i := 12) rfl)) (ty := (.array (.object "java/lang/Object"))) (by decide) rfl rfl (g := (mkF m 178 #[.val (.int p1), .val (.int p2), .val (.int p3), .val (.int p4), .val (.int p5), .val (.int v5), .val (.int v11), .val (.int v13), .val (.ref b14), .val (.int v141), .val (.int v143), .val (.int v144), .val (.ref b145), .unset, .unset] [.null, (.ref b145)])) rfl rfl (hb hby at_178)
      have Z217 : n0 ≤ h217.size := Nat.le_trans Z145 (Nat.le_of_eq W217.size.symm)
      have O217 := O145.wr W217 g_b145
      have N217 := Fr.snoc X217 N163 g_b145
      have Fw217 := F145_firsts.same W217
      have f218 := (F145_from.other W217 (Or.inr (slot_ne (Or.inl (hw _ (List.mem_of_getElem? (i := 23) rfl))) (Or.inl (hw _ (List.mem_of_getElem? (i := 21) rfl))) (by decide) (t := .int) (t' := (.array (.object "java/lang/Object"))) (by decide) (by decide))))
      have f219 := (A145.wr W217)
      obtain ⟨T220, h220, X220, e220, W220, st220⟩ := putF X217 hx hZ hown (host := "") (Or.inl (hw _ (List.mem_of_getElem? (i := 22) rfl))) Via.refl e217 f218 f219 (Or.inl (hw _ (List.mem_of_getElem? (i := 23) rfl))) (hw _ (List.mem_of_getElem? (i := 12) rfl)) (ty := .int) (by decide) rfl rfl (g := (mkF m 185 #[.val (.int p1), .val (.int p2), .val (.int p3), .val (.int p4), .val (.int p5), .val (.int v5), .val (.int v11), .val (.int v13), .val (.ref b14), .val (.int v141), .val (.int v143), .val (.int v144), .val (.ref b145), .unset, .unset] [(.int v141), (.ref b145)])) rfl rfl (hb hby at_185)
      have Z220 : n0 ≤ h220.size := Nat.le_trans Z217 (Nat.le_of_eq W220.size.symm)
      have O220 := O217.wr W220 g_b145
      have N220 := Fr.snoc X220 N217 g_b145
      have Fw220 := f218.same W220
      have f221 := ((F145_size.other W217 (Or.inr (slot_ne (Or.inl (hw _ (List.mem_of_getElem? (i := 25) rfl))) (Or.inl (hw _ (List.mem_of_getElem? (i := 21) rfl))) (by decide) (t := .int) (t' := (.array (.object "java/lang/Object"))) (by decide) (by decide)))).other W220 (Or.inr (slot_ne (Or.inl (hw _ (List.mem_of_getElem? (i := 25) rfl))) (Or.inl (hw _ (List.mem_of_getElem? (i := 23) rfl))) (by decide) (t := .int) (t' := .int) (by decide) (by decide))))
      have f222 := (f219.wr W220)
      obtain ⟨T223, h223, X223, e223, W223, st223⟩ := putF X220 hx hZ hown (host := "") (Or.inl (hw _ (List.mem_of_getElem? (i := 24) rfl))) Via.refl e220 f221 f222 (Or.inl (hw _ (List.mem_of_getElem? (i := 25) rfl))) (hw _ (List.mem_of_getElem? (i := 12) rfl)) (ty := .int) (by decide) rfl rfl (g := (mkF m 192 #[.val (.int p1), .val (.int p2), .val (.int p3), .val (.int p4), .val (.int p5), .val (.int v5), .val (.int v11), .val (.int v13), .val (.ref b14), .val (.int v141), .val (.int v143), .val (.int v144), .val (.ref b145), .unset, .unset] [(.int v143), (.ref b145)])) rfl rfl (hb hby at_192)
      have Z223 : n0 ≤ h223.size := Nat.le_trans Z220 (Nat.le_of_eq W223.size.symm)
      have O223 := O220.wr W223 g_b145
      have N223 := Fr.snoc X223 N220 g_b145
      have Fw223 := f221.same W223
      have go224 : own_go p e below (s₁.setTop (entryFrame m #[(.int p1), (.int p2), (.int p3), (.int p4), (.int p5)] maxLocals)) (T223.setTop (mkF m 199 #[.val (.int p1), .val (.int p2), .val (.int p3), .val (.int p4), .val (.int p5), .val (.int v5), .val (.int v11), .val (.int v13), .val (.ref b14), .val (.int v141), .val (.int v143), .val (.int v144), .val (.ref b145), .unset, .unset] [(.int v144), (.ref b145)])) := by
        intro ttx ktx
        refine go164 ttx ?_
        show Steps p.tables e below (T163.setTop (mkF m 169 #[.val (.int p1), .val (.int p2), .val (.int p3), .val (.int p4), .val (.int p5), .val (.int v5), .val (.int v11), .val (.int v13), .val (.ref b14), .val (.int v141), .val (.int v143), .val (.int v144), .val (.ref b145), .unset, .unset] [(.int v5), (.ref b145)])) _
        refine XS.ifNo X163.here hx rfl (hb hby at_169) rfl ((if0 _ _).trans (feq hc165_169).1) ?_
        show Steps p.tables e below (T163.setTop (mkF m 172 #[.val (.int p1), .val (.int p2), .val (.int p3), .val (.int p4), .val (.int p5), .val (.int v5), .val (.int v11), .val (.int v13), .val (.ref b14), .val (.int v141), .val (.int v143), .val (.int v144), .val (.ref b145), .unset, .unset] [(.ref b145)])) _
        refine XS.aconstNull X163.here hx rfl (hb hby at_172) ?_
        show Steps p.tables e below (T163.setTop (mkF m 173 #[.val (.int p1), .val (.int p2), .val (.int p3), .val (.int p4), .val (.int p5), .val (.int v5), .val (.int v11), .val (.int v13), .val (.ref b14), .val (.int v141), .val (.int v143), .val (.int v144), .val (.ref b145), .unset, .unset] [.null, (.ref b145)])) _
        refine XS.goto X163.here hx rfl (pc0 := 173) (pc' := 178) rfl (hb hby at_173) (by decide) (by decide) ?_
        show Steps p.tables e below (T163.setTop (mkF m 178 #[.val (.int p1), .val (.int p2), .val (.int p3), .val (.int p4), .val (.int p5), .val (.int v5), .val (.int v11), .val (.int v13), .val (.ref b14), .val (.int v141), .val (.int v143), .val (.int v144), .val (.ref b145), .unset, .unset] [.null, (.ref b145)])) _
        refine st217 _ ?_
        show Steps p.tables e below (T217.setTop (mkF m 181 #[.val (.int p1), .val (.int p2), .val (.int p3), .val (.int p4), .val (.int p5), .val (.int v5), .val (.int v11), .val (.int v13), .val (.ref b14), .val (.int v141), .val (.int v143), .val (.int v144), .val (.ref b145), .unset, .unset] [])) _
        refine XS.aload X217.here hx rfl (hb hby at_181) rfl rfl ?_
        show Steps p.tables e below (T217.setTop (mkF m 183 #[.val (.int p1), .val (.int p2), .val (.int p3), .val (.int p4), .val (.int p5), .val (.int v5), .val (.int v11), .val (.int v13), .val (.ref b14), .val (.int v141), .val (.int v143), .val (.int v144), .val (.ref b145), .unset, .unset] [(.ref b145)])) _
        refine XS.iload X217.here hx rfl (hb hby at_183) rfl ?_
        show Steps p.tables e below (T217.setTop (mkF m 185 #[.val (.int p1), .val (.int p2), .val (.int p3), .val (.int p4), .val (.int p5), .val (.int v5), .val (.int v11), .val (.int v13), .val (.ref b14), .val (.int v141), .val (.int v143), .val (.int v144), .val (.ref b145), .unset, .unset] [(.int v141), (.ref b145)])) _
        refine st220 _ ?_
        show Steps p.tables e below (T220.setTop (mkF m 188 #[.val (.int p1), .val (.int p2), .val (.int p3), .val (.int p4), .val (.int p5), .val (.int v5), .val (.int v11), .val (.int v13), .val (.ref b14), .val (.int v141), .val (.int v143), .val (.int v144), .val (.ref b145), .unset, .unset] [])) _
        refine XS.aload X220.here hx rfl (hb hby at_188) rfl rfl ?_
        show Steps p.tables e below (T220.setTop (mkF m 190 #[.val (.int p1), .val (.int p2), .val (.int p3), .val (.int p4), .val (.int p5), .val (.int v5), .val (.int v11), .val (.int v13), .val (.ref b14), .val (.int v141), .val (.int v143), .val (.int v144), .val (.ref b145), .unset, .unset] [(.ref b145)])) _
        refine XS.iload X220.here hx rfl (hb hby at_190) rfl ?_
        show Steps p.tables e below (T220.setTop (mkF m 192 #[.val (.int p1), .val (.int p2), .val (.int p3), .val (.int p4), .val (.int p5), .val (.int v5), .val (.int v11), .val (.int v13), .val (.ref b14), .val (.int v141), .val (.int v143), .val (.int v144), .val (.ref b145), .unset, .unset] [(.int v143), (.ref b145)])) _
        refine st223 _ ?_
        show Steps p.tables e below (T223.setTop (mkF m 195 #[.val (.int p1), .val (.int p2), .val (.int p3), .val (.int p4), .val (.int p5), .val (.int v5), .val (.int v11), .val (.int v13), .val (.ref b14), .val (.int v141), .val (.int v143), .val (.int v144), .val (.ref b145), .unset, .unset] [])) _
        refine XS.aload X223.here hx rfl (hb hby at_195) rfl rfl ?_
        show Steps p.tables e below (T223.setTop (mkF m 197 #[.val (.int p1), .val (.int p2), .val (.int p3), .val (.int p4), .val (.int p5), .val (.int v5), .val (.int v11), .val (.int v13), .val (.ref b14), .val (.int v141), .val (.int v143), .val (.int v144), .val (.ref b145), .unset, .unset] [(.ref b145)])) _
        refine XS.iload X223.here hx rfl (hb hby at_197) rfl ?_
        exact ktx
      have f226 := ((Fw217.other W220 (Or.inr (slot_ne (Or.inl (hw _ (List.mem_of_getElem? (i := 21) rfl))) (Or.inl (hw _ (List.mem_of_getElem? (i := 23) rfl))) (by decide) (t := (.array (.object "java/lang/Object"))) (t' := .int) (by decide) (by decide)))).other W223 (Or.inr (slot_ne (Or.inl (hw _ (List.mem_of_getElem? (i := 21) rfl))) (Or.inl (hw _ (List.mem_of_getElem? (i := 25) rfl))) (by decide) (t := (.array (.object "java/lang/Object"))) (t' := .int) (by decide) (by decide))))
      have f227 := (f222.wr W223)
      obtain ⟨cq225, kq225, q225a, q225b, q225c⟩ := isOf hZ e223 f227
      obtain ⟨_, _, ⟨T225, L225, k225, n225⟩, -, X225, ⟨Lc225, hQ225, l225, y225, z225⟩, st225⟩ := X223.virtualBack hx (y := (⟨"com/example/wilt/wilt/core/ExpirySlots$Run", "first", "(I)Ljava/lang/Object;"⟩ : MethodName)) (z := (⟨"com/example/wilt/wilt/core/ExpirySlots$Run", "first", "(I)Ljava/lang/Object;"⟩ : MethodName)) hown (mvT hZ (hw _ (List.mem_of_getElem? (i := 26) rfl))) (mvT hZ (hw _ (List.mem_of_getElem? (i := 27) rfl))) (notFace_of_selects (args := #[]) (mvT hZ (hw _ (List.mem_of_getElem? (i := 29) rfl)))) (mvT hZ (hw _ (List.mem_of_getElem? (i := 29) rfl))) (mvT hZ (hw _ (List.mem_of_getElem? (i := 28) rfl))) (by decide) (backOf (W := 0) (rmFN l Z a0 hw [] b145 v144  h223 n0 Z223 f226) hZ (hw _ (List.mem_of_getElem? (i := 30) rfl)) (hw _ (List.mem_of_getElem? (i := 13) rfl)) (by decide) (by decide)) q225a q225c (g := (mkF m 199 #[.val (.int p1), .val (.int p2), .val (.int p3), .val (.int p4), .val (.int p5), .val (.int v5), .val (.int v11), .val (.int v13), .val (.ref b14), .val (.int v141), .val (.int v143), .val (.int v144), .val (.ref b145), .unset, .unset] [(.int v144), (.ref b145)])) rfl (by rw [hml]; rfl) (Steps.refl _) (argsL := [(.int v144)]) (rest := []) (lenOf own_pd3 rfl) rfl (by show 2 * 0 + _ ≤ _; exact Nat.le_of_eq rfl) (hb hby at_199) (fun _ _ => ⟨rfl, e223, (by decide : 10 + 0 ≤ _), (by decide : 25 + 0 ≤ _)⟩)
      dsimp only [Pt.U, Pt.locs, Pt.cells, Pt.slots] at X225 l225 y225 z225 st225 hQ225
      rw [l225, y225, z225] at X225
      obtain ⟨rfl, Nq225, e225⟩ := hQ225
      have N225 := Fr.app N223 Nq225
      obtain ⟨v228, hv_v228⟩ : ∃ z : Int32, z = (v141 + v144) := ⟨_, rfl⟩
      have hc229_213 : ¬ (v5 = (0 : Int32)) := hc165_169
      have go230 : own_go p e below (s₁.setTop (entryFrame m #[(.int p1), (.int p2), (.int p3), (.int p4), (.int p5)] maxLocals)) (T225.setTop (mkF m 226 #[.val (.int p1), .val (.int p2), .val (.int p3), .val (.int p4), .val (.int p5), .val (.int v5), .val (.int v11), .val (.int v13), .val (.ref b14), .val (.int v141), .val (.int v143), .val (.int v144), .val (.ref b145), .val .null, .val (.int v228)] [(.int (1 : Int32))])) := by
        intro ttx ktx
        refine go224 ttx ?_
        show Steps p.tables e below (T223.setTop (mkF m 199 #[.val (.int p1), .val (.int p2), .val (.int p3), .val (.int p4), .val (.int p5), .val (.int v5), .val (.int v11), .val (.int v13), .val (.ref b14), .val (.int v141), .val (.int v143), .val (.int v144), .val (.ref b145), .unset, .unset] [(.int v144), (.ref b145)])) _
        refine st225.trans ?_
        show Steps p.tables e below (T225.setTop (mkF m 202 #[.val (.int p1), .val (.int p2), .val (.int p3), .val (.int p4), .val (.int p5), .val (.int v5), .val (.int v11), .val (.int v13), .val (.ref b14), .val (.int v141), .val (.int v143), .val (.int v144), .val (.ref b145), .unset, .unset] [.null])) _
        refine XS.astore X225.here hx rfl (hb hby at_202) rfl rfl (l' := #[.val (.int p1), .val (.int p2), .val (.int p3), .val (.int p4), .val (.int p5), .val (.int v5), .val (.int v11), .val (.int v13), .val (.ref b14), .val (.int v141), .val (.int v143), .val (.int v144), .val (.ref b145), .val .null, .unset]) rfl ?_
        show Steps p.tables e below (T225.setTop (mkF m 204 #[.val (.int p1), .val (.int p2), .val (.int p3), .val (.int p4), .val (.int p5), .val (.int v5), .val (.int v11), .val (.int v13), .val (.ref b14), .val (.int v141), .val (.int v143), .val (.int v144), .val (.ref b145), .val .null, .unset] [])) _
        refine XS.iload X225.here hx rfl (hb hby at_204) rfl ?_
        show Steps p.tables e below (T225.setTop (mkF m 206 #[.val (.int p1), .val (.int p2), .val (.int p3), .val (.int p4), .val (.int p5), .val (.int v5), .val (.int v11), .val (.int v13), .val (.ref b14), .val (.int v141), .val (.int v143), .val (.int v144), .val (.ref b145), .val .null, .unset] [(.int v141)])) _
        refine XS.iload X225.here hx rfl (hb hby at_206) rfl ?_
        show Steps p.tables e below (T225.setTop (mkF m 208 #[.val (.int p1), .val (.int p2), .val (.int p3), .val (.int p4), .val (.int p5), .val (.int v5), .val (.int v11), .val (.int v13), .val (.ref b14), .val (.int v141), .val (.int v143), .val (.int v144), .val (.ref b145), .val .null, .unset] [(.int v144), (.int v141)])) _
        refine XS.iadd X225.here hx rfl (hb hby at_208) rfl ?_
        show Steps p.tables e below (T225.setTop (mkF m 209 #[.val (.int p1), .val (.int p2), .val (.int p3), .val (.int p4), .val (.int p5), .val (.int v5), .val (.int v11), .val (.int v13), .val (.ref b14), .val (.int v141), .val (.int v143), .val (.int v144), .val (.ref b145), .val .null, .unset] [(.int (v141 + v144))])) _
        rw [← hv_v228]
        show Steps p.tables e below (T225.setTop (mkF m 209 #[.val (.int p1), .val (.int p2), .val (.int p3), .val (.int p4), .val (.int p5), .val (.int v5), .val (.int v11), .val (.int v13), .val (.ref b14), .val (.int v141), .val (.int v143), .val (.int v144), .val (.ref b145), .val .null, .unset] [(.int v228)])) _
        refine XS.istore X225.here hx rfl (hb hby at_209) rfl (l' := #[.val (.int p1), .val (.int p2), .val (.int p3), .val (.int p4), .val (.int p5), .val (.int v5), .val (.int v11), .val (.int v13), .val (.ref b14), .val (.int v141), .val (.int v143), .val (.int v144), .val (.ref b145), .val .null, .val (.int v228)]) rfl ?_
        show Steps p.tables e below (T225.setTop (mkF m 211 #[.val (.int p1), .val (.int p2), .val (.int p3), .val (.int p4), .val (.int p5), .val (.int v5), .val (.int v11), .val (.int v13), .val (.ref b14), .val (.int v141), .val (.int v143), .val (.int v144), .val (.ref b145), .val .null, .val (.int v228)] [])) _
        refine XS.iload X225.here hx rfl (hb hby at_211) rfl ?_
        show Steps p.tables e below (T225.setTop (mkF m 213 #[.val (.int p1), .val (.int p2), .val (.int p3), .val (.int p4), .val (.int p5), .val (.int v5), .val (.int v11), .val (.int v13), .val (.ref b14), .val (.int v141), .val (.int v143), .val (.int v144), .val (.ref b145), .val .null, .val (.int v228)] [(.int v5)])) _
        refine XS.ifNo X225.here hx rfl (hb hby at_213) rfl ((if0 _ _).trans (feq hc229_213).1) ?_
        show Steps p.tables e below (T225.setTop (mkF m 216 #[.val (.int p1), .val (.int p2), .val (.int p3), .val (.int p4), .val (.int p5), .val (.int v5), .val (.int v11), .val (.int v13), .val (.ref b14), .val (.int v141), .val (.int v143), .val (.int v144), .val (.ref b145), .val .null, .val (.int v228)] [])) _
        refine XS.aload X225.here hx rfl (hb hby at_216) rfl rfl ?_
        show Steps p.tables e below (T225.setTop (mkF m 218 #[.val (.int p1), .val (.int p2), .val (.int p3), .val (.int p4), .val (.int p5), .val (.int v5), .val (.int v11), .val (.int v13), .val (.ref b14), .val (.int v141), .val (.int v143), .val (.int v144), .val (.ref b145), .val .null, .val (.int v228)] [.null])) _
        refine XS.ifnonnullNo X225.here hx rfl (hb hby at_218) rfl ?_
        show Steps p.tables e below (T225.setTop (mkF m 221 #[.val (.int p1), .val (.int p2), .val (.int p3), .val (.int p4), .val (.int p5), .val (.int v5), .val (.int v11), .val (.int v13), .val (.ref b14), .val (.int v141), .val (.int v143), .val (.int v144), .val (.ref b145), .val .null, .val (.int v228)] [])) _
        refine XS.iconst X225.here hx rfl (hb hby at_221) ?_
        show Steps p.tables e below (T225.setTop (mkF m 222 #[.val (.int p1), .val (.int p2), .val (.int p3), .val (.int p4), .val (.int p5), .val (.int v5), .val (.int v11), .val (.int v13), .val (.ref b14), .val (.int v141), .val (.int v143), .val (.int v144), .val (.ref b145), .val .null, .val (.int v228)] [(.int (1 : Int32))])) _
        refine XS.goto X225.here hx rfl (pc0 := 222) (pc' := 226) rfl (hb hby at_222) (by decide) (by decide) ?_
        exact ktx
      obtain ⟨fs, hr, hrun, hended, hW, hsame⟩ := X225.leave (v := some (.int (1 : Int32))) (fun h => by rw [Bd.returns] at h; cases h)
      refine ⟨_, _, go230 _ ?_, hrun, hended, _, _, rfl, ?_, ⟨_, rfl⟩, hW, hsame.mono (by decide) (by decide)⟩
      · exact retN X225 hx (t := .boolean) Bd.returns (by simp) (hb hby at_226) hr
      · show Q0 Z p1 p2 p3 p4 p5 h0 n0 _ T225.heap _
        rw [e225]
        exact ⟨rfl, N225⟩
set_option maxRecDepth 65536 in
set_option maxHeartbeats 40000000 in
theorem comes_1 {Post : Tables → Env → Array Value → State → Outcome → State → Prop} (hpost : ∀ tb e args s v u, (limb_1_1.after args s (.returned v) u = true ∧ limb_1_2.after args s (.returned v) u = true ∧ True) → FrameEnd s (.returned v) u (Jvm.fieldLocs frame_1_writes args s ++ Jvm.arrayLocs frame_1_arrays args s ++ Jvm.staticLocs frame_1_statics s) 32 128 → Post tb e args s (.returned v) u) :
    ArmFor flags0 classFile x code maxLocals ret World_1 tables_1 room_1 Calls_1 rest_1 Pre_1 Post := by
  intro l hfl _ _ p e ha hc hk s m args below hf hA hF happ hP
  obtain ⟨hcalls, hrest, hpre⟩ := hP
  obtain ⟨-, -, -, hnamed, -, -, -, hat⟩ := (Spec.applies_iff hf).mp happ
  obtain ⟨hg, hn⟩ := and_e (Cond.before_iff.mp (show (Jvm.Cond.and given_1 narrow_1).before args s = true from hpre))
  obtain ⟨ga0, gb0⟩ := and_e hg
  obtain ⟨ga1, gb1⟩ := and_e gb0
  obtain ⟨ga2, gb2⟩ := and_e gb1
  obtain ⟨ga3, gb3⟩ := and_e gb2
  obtain ⟨ga4, gb4⟩ := and_e gb3
  obtain ⟨w0, w1, w2, w3, w4, rfl⟩ : ∃ w0 w1 w2 w3 w4 : Value, args = #[w0, w1, w2, w3, w4] := by
    have hs : args.size = 5 := by simpa [Cond.value, given_1] using ga0
    obtain ⟨L⟩ := args
    match L, hs with
    | [w0, w1, w2, w3, w4], _ => exact ⟨w0, w1, w2, w3, w4, rfl⟩
  have hw := fun d (hd : d ∈ tables_1) => atoms_spec (ws := Jvm.Cond.code x code maxLocals ret :: tables_1) hat d (List.mem_cons_of_mem _ hd)
  have hfit : Fit s := fun {y c} hc i hi => by
    obtain ⟨ha, rfl⟩ := Array.getElem?_eq_some_iff.mp hc
    have q := List.all_eq_true.mp ((Array.all_eq_true_iff_forall_mem.mp hF) _ (Array.getElem_mem ha)) i (List.mem_range.mpr hi)
    simpa [Array.getElem?_eq_getElem hi] using q
  obtain ⟨hsets, hown0⟩ := atoms_of _ (rest_1_c_eq ▸ (show rest_1_c.before _ s = true from hrest))
  obtain ⟨i0, ei0⟩ := is_v ga1
  obtain rfl : w0 = (.int i0) := Option.some.inj ei0
  obtain ⟨i1, ei1⟩ := is_v ga2
  obtain rfl : w1 = (.int i1) := Option.some.inj ei1
  obtain ⟨i2, ei2⟩ := is_v ga3
  obtain rfl : w2 = (.int i2) := Option.some.inj ei2
  obtain ⟨i3, ei3⟩ := is_v ga4
  obtain rfl : w3 = (.int i3) := Option.some.inj ei3
  obtain ⟨i4, ei4⟩ := is_v gb4
  obtain rfl : w4 = (.int i4) := Option.some.inj ei4
  obtain ⟨n, o, h1, h2, h3, _, L, rfl, ⟨rfl, N⟩, hq⟩ := rm0 l s _ hw tables_1 i0 i1 i2 i3 i4  s.heap s.heap.size (Nat.le_refl _) (Old.start s) (own_cache_of hw hsets hfit) p e ha hc hk s m _ below hf ((Spec.applies_iff_loose hf).mp happ).1 ⟨rfl, State.Warmed39.refl s, rfl⟩ trivial
  refine ⟨n, _, h1, h2, h3, hpost _ _ _ _ _ _ ⟨Cond.after_iff.mpr rfl, Cond.after_iff.mpr (eq_i res_at (Term.int_eval (1)) rfl), trivial⟩ ⟨hq.1, hq.2.1, (hq.2.2.sift fun y hy => Or.inr (N y hy)).mono (by decide) (by decide)⟩⟩
theorem main_1_1 : Claimed_1_1 := comes_1 fun _ _ _ _ _ _ h hF => ⟨h.1, hF⟩
theorem main_1_2 : Claimed_1_2 := comes_1 fun _ _ _ _ _ _ h hF => ⟨h.2.1, hF⟩
end Jvm.Pilot.@@N@@
namespace Jvm.Pilot.@@N@@
open Jvm Jvm.ClassFile Sem Op Lib Jvm.Free Jvm.Stand Jvm.Pilot.@@N@@.Jvm.D
/-! MADE BY PROGRAM (witnessworld.py) out of the Statement's table words and the real class files: 17 classes; the members and pool entries that the words name. The judged class is class 1, her method 1. -/
namespace start1
open Jvm.ClassFile
def u (s : String) : CpInfo := .utf8 (stringToUtf16 s)
/-- a pool by its gaps: so many unusable entries, then the entry; so many at the end -/
def gap : Nat → List CpInfo → List CpInfo
  | 0, r => r
  | n + 1, r => .unusable :: gap n r
def poolList (es : List (Nat × CpInfo)) (last : Nat) : List CpInfo := es.foldr (fun e r => gap e.1 (e.2 :: r)) (gap last [])
def pool (es : List (Nat × CpInfo)) (last : Nat) : Array CpInfo := ⟨poolList es last⟩
def fileOf (pool : Array CpInfo) (this : Nat) (attrs : Array Attribute := #[]) (ms : Array MethodInfo := #[]) (fl : Nat := 33) (sup : Nat := 0) (ifs : Array Nat := #[]) (fds : Array FieldInfo := #[]) : ClassFile where
  minorVersion := 0
  majorVersion := 65
  constantPool := pool
  accessFlags := fl
  thisClass := this
  superClass := sup
  interfaces := ifs
  fields := fds
  methods := ms
  attributes := attrs
def plain (name : String) (sup : Option ClassId) : Class where
  name := name
  kind := .ordinary
  loader := none
  accessFlags := 33
  super := sup
  interfaces := #[]
  cf := none
  fields := #[]
  methods := #[]
  instanceTypes := #[]
  staticTypes := #[]
  resolved := #[]
  callSites := []
  init := .initialized
  statics := none
  mirror := none

def pool0 : Array CpInfo := pool [(5, u "<init>"), (0, u "()V"), (1, .class_ 10), (1, u "java/lang/Object")] 113

def k0c0 : Code := { maxStack := 0, maxLocals := 1, code := object_method_1_code, exceptionTable := #[], attributes := #[] }
def k0m0 : Method := { name := "<init>", desc := "()V", sig := { parameters := [], returnType := none }, accessFlags := 1, code := some k0c0 }
/-- java/lang/Object -/
def k0 : Class := { plain "java/lang/Object" none with
  accessFlags := 33
  interfaces := #[]
  cf := some (fileOf pool0 8 #[] #[{ accessFlags := 1, nameIndex := 5, descriptorIndex := 6, attributes := #[] }] 33 0 #[] #[])
  fields := #[]
  methods := #[k0m0]
  instanceTypes := #[]
  staticTypes := #[]
  resolved := Array.replicate 124 none
  statics := none }

def pool1 : Array CpInfo := pool [(2, .class_ 4), (0, .nameAndType 5 6), (0, u "java/lang/Object"), (0, u "<init>"), (0, u "()V"), (0, .methodref 8 9), (0, .class_ 10), (0, .nameAndType 11 12), (0, u "java/lang/Integer"), (0, u "valueOf"), (0, u "(I)Ljava/lang/Integer;"), (0, .integer 2147483647), (0, .class_ 15), (0, u "com/example/wilt/wilt/core/ExpirySlots$Run"), (0, .methodref 14 3), (0, .fieldref 14 18), (0, .nameAndType 19 20), (0, u "firsts"), (0, u "[Ljava/lang/Object;"), (0, .fieldref 14 22), (0, .nameAndType 23 24), (0, u "from"), (0, u "I"), (0, .fieldref 14 26), (0, .nameAndType 27 24), (0, u "size"), (0, .methodref 14 29), (0, .nameAndType 30 31), (0, u "first"), (0, u "(I)Ljava/lang/Object;"), (0, .methodref 8 33), (0, .nameAndType 34 35), (0, u "intValue"), (0, u "()I"), (0, .class_ 37), (0, u "com/example/wilt/wilt/core/RunFirstPinLaw"), (2, u "law"), (0, u "(IIIII)Z")] 8

def k1m0 : Method := { name := "<init>", desc := "()V", sig := { parameters := [], returnType := none }, accessFlags := 1, code := none }
def k1c1 : Code := { maxStack := 4, maxLocals := 15, code := code, exceptionTable := #[], attributes := #[] }
def k1m1 : Method := { name := "law", desc := "(IIIII)Z", sig := { parameters := [.int, .int, .int, .int, .int], returnType := some .boolean }, accessFlags := 9, code := some k1c1 }
/-- com/example/wilt/wilt/core/RunFirstPinLaw -/
def k1 : Class := { plain "com/example/wilt/wilt/core/RunFirstPinLaw" (some 0) with
  accessFlags := 49
  interfaces := #[]
  cf := some (fileOf pool1 36 #[] #[{ accessFlags := 1, nameIndex := 5, descriptorIndex := 6, attributes := #[] }, { accessFlags := 9, nameIndex := 40, descriptorIndex := 41, attributes := #[] }] 49 2 #[] #[])
  fields := #[]
  methods := #[k1m0, k1m1]
  instanceTypes := #[]
  staticTypes := #[]
  resolved := Array.replicate 50 none
  statics := none }

def pool2 : Array CpInfo := pool [(1, .class_ 2), (0, u "java/io/Serializable"), (0, .class_ 4), (0, u "java/lang/Object")] 2

/-- java/io/Serializable -/
def k2 : Class := { plain "java/io/Serializable" (some 0) with
  accessFlags := 1537
  interfaces := #[]
  cf := some (fileOf pool2 1 #[] #[] 1537 3 #[] #[])
  fields := #[]
  methods := #[]
  instanceTypes := #[]
  staticTypes := #[]
  resolved := Array.replicate 7 none
  statics := none }

def pool3 : Array CpInfo := pool [(1, .methodref 2 3), (0, .class_ 4), (0, .nameAndType 5 6), (0, u "java/lang/Object"), (0, u "<init>"), (0, u "()V"), (1, .class_ 10), (1, u "java/lang/Number"), (2, .class_ 14), (0, u "java/io/Serializable"), (0, u "serialVersionUID"), (0, u "J")] 20

def k3c0 : Code := { maxStack := 1, maxLocals := 1, code := jdk_18_method_1_code, exceptionTable := #[], attributes := #[] }
def k3m0 : Method := { name := "<init>", desc := "()V", sig := { parameters := [], returnType := none }, accessFlags := 1, code := some k3c0 }
/-- java/lang/Number -/
def k3 : Class := { plain "java/lang/Number" (some 0) with
  accessFlags := 1057
  interfaces := #[2]
  cf := some (fileOf pool3 8 #[] #[{ accessFlags := 1, nameIndex := 5, descriptorIndex := 6, attributes := #[] }] 1057 2 #[13] #[{ accessFlags := 26, nameIndex := 15, descriptorIndex := 16, attributes := #[] }])
  fields := #[{ name := "serialVersionUID", type := .long, accessFlags := 26, slot := 0, constantValue := 0 }]
  methods := #[k3m0]
  instanceTypes := #[]
  staticTypes := #[.long]
  resolved := Array.replicate 37 none
  statics := none }

def pool4 : Array CpInfo := pool [(1, .class_ 2), (0, u "java/lang/Comparable"), (0, .class_ 4), (0, u "java/lang/Object")] 7

/-- java/lang/Comparable -/
def k4 : Class := { plain "java/lang/Comparable" (some 0) with
  accessFlags := 1537
  interfaces := #[]
  cf := some (fileOf pool4 1 #[] #[] 1537 3 #[] #[])
  fields := #[]
  methods := #[]
  instanceTypes := #[]
  staticTypes := #[]
  resolved := Array.replicate 12 none
  statics := none }

def pool5 : Array CpInfo := pool [(1, .class_ 2), (0, u "java/lang/constant/Constable"), (0, .class_ 4), (0, u "java/lang/Object")] 6

/-- java/lang/constant/Constable -/
def k5 : Class := { plain "java/lang/constant/Constable" (some 0) with
  accessFlags := 1537
  interfaces := #[]
  cf := some (fileOf pool5 1 #[] #[] 1537 3 #[] #[])
  fields := #[]
  methods := #[]
  instanceTypes := #[]
  staticTypes := #[]
  resolved := Array.replicate 11 none
  statics := none }

def pool6 : Array CpInfo := pool [(1, .class_ 2), (0, u "java/lang/constant/ConstantDesc"), (0, .class_ 4), (0, u "java/lang/Object")] 32

/-- java/lang/constant/ConstantDesc -/
def k6 : Class := { plain "java/lang/constant/ConstantDesc" (some 0) with
  accessFlags := 1537
  interfaces := #[]
  cf := some (fileOf pool6 1 #[] #[] 1537 3 #[] #[])
  fields := #[]
  methods := #[]
  instanceTypes := #[]
  staticTypes := #[]
  resolved := Array.replicate 37 none
  statics := none }

def pool7 : Array CpInfo := pool [(1, .class_ 2), (0, u "java/lang/Integer"), (16, u "digits"), (0, u "[C"), (46, u "<init>"), (17, u "DigitOnes"), (0, u "[B"), (2, u "DigitTens"), (10, .nameAndType 67 101), (0, u "()V"), (19, u "()I"), (65, u "valueOf"), (0, u "(I)Ljava/lang/Integer;"), (0, .class_ 190), (0, u "java/lang/Integer$IntegerCache"), (0, .fieldref 189 192), (0, .nameAndType 193 194), (0, u "high"), (0, u "I"), (0, .fieldref 189 196), (0, .nameAndType 197 198), (0, u "cache"), (0, u "[Ljava/lang/Integer;"), (0, .methodref 1 200), (0, .nameAndType 67 201), (0, u "(I)V"), (0, .methodref 203 100), (0, .class_ 204), (0, u "java/lang/Number"), (0, .fieldref 1 206), (0, .nameAndType 207 194), (0, u "value"), (5, u "intValue"), (88, u "TYPE"), (0, u "Ljava/lang/Class;"), (0, .class_ 305), (0, u "java/lang/Comparable"), (0, .class_ 307), (0, u "java/lang/constant/Constable"), (0, .class_ 309), (0, u "java/lang/constant/ConstantDesc"), (0, u "MIN_VALUE"), (1, u "MAX_VALUE"), (3, u "SIZE"), (1, u "BYTES"), (1, u "serialVersionUID"), (0, u "J")] 131

def k7c0 : Code := { maxStack := 3, maxLocals := 1, code := jdk_33_method_22_code, exceptionTable := #[], attributes := #[] }
def k7m0 : Method := { name := "valueOf", desc := "(I)Ljava/lang/Integer;", sig := { parameters := [.int], returnType := some (.object "java/lang/Integer") }, accessFlags := 9, code := some k7c0 }
def k7c1 : Code := { maxStack := 2, maxLocals := 2, code := jdk_33_method_23_code, exceptionTable := #[], attributes := #[] }
def k7m1 : Method := { name := "<init>", desc := "(I)V", sig := { parameters := [.int], returnType := none }, accessFlags := 1, code := some k7c1 }
def k7c2 : Code := { maxStack := 1, maxLocals := 1, code := jdk_33_method_27_code, exceptionTable := #[], attributes := #[] }
def k7m2 : Method := { name := "intValue", desc := "()I", sig := { parameters := [], returnType := some .int }, accessFlags := 1, code := some k7c2 }
/-- java/lang/Integer -/
def k7 : Class := { plain "java/lang/Integer" (some 3) with
  accessFlags := 49
  interfaces := #[4, 5, 6]
  cf := some (fileOf pool7 1 #[.nestMembers #[189]] #[{ accessFlags := 9, nameIndex := 187, descriptorIndex := 188, attributes := #[] }, { accessFlags := 1, nameIndex := 67, descriptorIndex := 201, attributes := #[] }, { accessFlags := 1, nameIndex := 213, descriptorIndex := 121, attributes := #[] }] 49 203 #[304, 306, 308] #[{ accessFlags := 25, nameIndex := 310, descriptorIndex := 194, attributes := #[] }, { accessFlags := 25, nameIndex := 312, descriptorIndex := 194, attributes := #[] }, { accessFlags := 25, nameIndex := 302, descriptorIndex := 303, attributes := #[] }, { accessFlags := 24, nameIndex := 19, descriptorIndex := 20, attributes := #[] }, { accessFlags := 24, nameIndex := 89, descriptorIndex := 86, attributes := #[] }, { accessFlags := 24, nameIndex := 85, descriptorIndex := 86, attributes := #[] }, { accessFlags := 18, nameIndex := 207, descriptorIndex := 194, attributes := #[] }, { accessFlags := 25, nameIndex := 316, descriptorIndex := 194, attributes := #[] }, { accessFlags := 25, nameIndex := 318, descriptorIndex := 194, attributes := #[] }, { accessFlags := 26, nameIndex := 320, descriptorIndex := 321, attributes := #[] }])
  fields := #[{ name := "MIN_VALUE", type := .int, accessFlags := 25, slot := 0, constantValue := 0 }, { name := "MAX_VALUE", type := .int, accessFlags := 25, slot := 1, constantValue := 0 }, { name := "TYPE", type := (.object "java/lang/Class"), accessFlags := 25, slot := 2, constantValue := 0 }, { name := "digits", type := (.array .char), accessFlags := 24, slot := 3, constantValue := 0 }, { name := "DigitTens", type := (.array .byte), accessFlags := 24, slot := 4, constantValue := 0 }, { name := "DigitOnes", type := (.array .byte), accessFlags := 24, slot := 5, constantValue := 0 }, { name := "value", type := .int, accessFlags := 18, slot := 0, constantValue := 0 }, { name := "SIZE", type := .int, accessFlags := 25, slot := 6, constantValue := 0 }, { name := "BYTES", type := .int, accessFlags := 25, slot := 7, constantValue := 0 }, { name := "serialVersionUID", type := .long, accessFlags := 26, slot := 8, constantValue := 0 }]
  methods := #[k7m0, k7m1, k7m2]
  instanceTypes := #[.int]
  staticTypes := #[.int, .int, (.object "java/lang/Class"), (.array .char), (.array .byte), (.array .byte), .int, .int, .long]
  resolved := Array.replicate 453 none
  statics := none }

def pool8 : Array CpInfo := pool [(2, .class_ 4), (1, u "java/lang/Object"), (0, u "<init>"), (0, u "()V"), (0, .class_ 8), (0, u "java/lang/Integer"), (7, .class_ 18), (1, u "java/lang/Integer$IntegerCache"), (0, u "$assertionsDisabled"), (0, u "Z"), (26, u "high"), (0, u "I"), (8, u "archivedCache"), (0, u "[Ljava/lang/Integer;"), (12, u "cache"), (0, u "low")] 27

def k8m0 : Method := { name := "<init>", desc := "()V", sig := { parameters := [], returnType := none }, accessFlags := 2, code := none }
/-- java/lang/Integer$IntegerCache -/
def k8 : Class := { plain "java/lang/Integer$IntegerCache" (some 0) with
  accessFlags := 48
  interfaces := #[]
  cf := some (fileOf pool8 16 #[.nestHost 7] #[{ accessFlags := 2, nameIndex := 5, descriptorIndex := 6, attributes := #[] }] 48 2 #[] #[{ accessFlags := 24, nameIndex := 72, descriptorIndex := 48, attributes := #[] }, { accessFlags := 24, nameIndex := 47, descriptorIndex := 48, attributes := #[] }, { accessFlags := 24, nameIndex := 71, descriptorIndex := 58, attributes := #[] }, { accessFlags := 8, nameIndex := 57, descriptorIndex := 58, attributes := #[] }, { accessFlags := 4120, nameIndex := 19, descriptorIndex := 20, attributes := #[] }])
  fields := #[{ name := "low", type := .int, accessFlags := 24, slot := 0, constantValue := 0 }, { name := "high", type := .int, accessFlags := 24, slot := 1, constantValue := 0 }, { name := "cache", type := (.array (.object "java/lang/Integer")), accessFlags := 24, slot := 2, constantValue := 0 }, { name := "archivedCache", type := (.array (.object "java/lang/Integer")), accessFlags := 8, slot := 3, constantValue := 0 }, { name := "$assertionsDisabled", type := .boolean, accessFlags := 4120, slot := 4, constantValue := 0 }]
  methods := #[k8m0]
  instanceTypes := #[]
  staticTypes := #[.int, .int, (.array (.object "java/lang/Integer")), (.array (.object "java/lang/Integer")), .boolean]
  resolved := Array.replicate 100 none
  statics := some 0 }

def pool9 : Array CpInfo := pool [(1, .class_ 2), (0, u "com/example/wilt/wilt/core/ExpirySlots"), (0, .methodref 4 5), (0, .class_ 6), (0, .nameAndType 7 8), (0, u "java/lang/Object"), (0, u "<init>"), (0, u "()V"), (4, u "expiryTime"), (0, u "J"), (1, .class_ 17), (0, u "com/example/wilt/wilt/core/ExpirySlots$Run"), (2, u "slots"), (3, u "[I"), (2, u "tags"), (3, u "[J"), (2, u "timeouts"), (4, u "timeout"), (3, u "marks"), (6, .fieldref 16 51), (0, .nameAndType 52 53), (0, u "firsts"), (0, u "[Ljava/lang/Object;"), (0, .fieldref 16 55), (0, .nameAndType 56 57), (0, u "from"), (0, u "I"), (2, u "size"), (29, u "first"), (0, u "(I)Ljava/lang/Object;")] 6

def k9c0 : Code := { maxStack := 1, maxLocals := 1, code := prog_12_method_1_code, exceptionTable := #[], attributes := #[] }
def k9m0 : Method := { name := "<init>", desc := "()V", sig := { parameters := [], returnType := none }, accessFlags := 0, code := some k9c0 }
def k9c1 : Code := { maxStack := 3, maxLocals := 2, code := prog_12_method_9_code, exceptionTable := #[], attributes := #[] }
def k9m1 : Method := { name := "first", desc := "(I)Ljava/lang/Object;", sig := { parameters := [.int], returnType := some (.object "java/lang/Object") }, accessFlags := 0, code := some k9c1 }
/-- com/example/wilt/wilt/core/ExpirySlots$Run -/
def k9 : Class := { plain "com/example/wilt/wilt/core/ExpirySlots$Run" (some 0) with
  accessFlags := 32
  interfaces := #[]
  cf := some (fileOf pool9 16 #[.nestHost 1] #[{ accessFlags := 0, nameIndex := 7, descriptorIndex := 8, attributes := #[] }, { accessFlags := 0, nameIndex := 90, descriptorIndex := 91, attributes := #[] }] 32 4 #[] #[{ accessFlags := 0, nameIndex := 13, descriptorIndex := 14, attributes := #[] }, { accessFlags := 0, nameIndex := 20, descriptorIndex := 24, attributes := #[] }, { accessFlags := 0, nameIndex := 27, descriptorIndex := 31, attributes := #[] }, { accessFlags := 0, nameIndex := 34, descriptorIndex := 31, attributes := #[] }, { accessFlags := 0, nameIndex := 39, descriptorIndex := 14, attributes := #[] }, { accessFlags := 0, nameIndex := 43, descriptorIndex := 31, attributes := #[] }, { accessFlags := 0, nameIndex := 52, descriptorIndex := 53, attributes := #[] }, { accessFlags := 0, nameIndex := 56, descriptorIndex := 57, attributes := #[] }, { accessFlags := 0, nameIndex := 60, descriptorIndex := 57, attributes := #[] }])
  fields := #[{ name := "expiryTime", type := .long, accessFlags := 0, slot := 0, constantValue := 0 }, { name := "slots", type := (.array .int), accessFlags := 0, slot := 1, constantValue := 0 }, { name := "tags", type := (.array .long), accessFlags := 0, slot := 2, constantValue := 0 }, { name := "timeouts", type := (.array .long), accessFlags := 0, slot := 3, constantValue := 0 }, { name := "timeout", type := .long, accessFlags := 0, slot := 4, constantValue := 0 }, { name := "marks", type := (.array .long), accessFlags := 0, slot := 5, constantValue := 0 }, { name := "firsts", type := (.array (.object "java/lang/Object")), accessFlags := 0, slot := 6, constantValue := 0 }, { name := "from", type := .int, accessFlags := 0, slot := 7, constantValue := 0 }, { name := "size", type := .int, accessFlags := 0, slot := 8, constantValue := 0 }]
  methods := #[k9m0, k9m1]
  instanceTypes := #[.long, (.array .int), (.array .long), (.array .long), .long, (.array .long), (.array (.object "java/lang/Object")), .int, .int]
  staticTypes := #[]
  resolved := Array.replicate 98 none
  statics := none }

def pool10 : Array CpInfo := pool [(1, u "java/lang/Cloneable"), (0, .class_ 1), (0, u "java/lang/Object"), (0, .class_ 3)] 3

/-- java/lang/Cloneable -/
def k10 : Class := { plain "java/lang/Cloneable" (some 0) with
  accessFlags := 1537
  interfaces := #[]
  cf := some (fileOf pool10 2 #[] #[] 1537 4 #[] #[])
  fields := #[]
  methods := #[]
  instanceTypes := #[]
  staticTypes := #[]
  resolved := Array.replicate 8 none
  statics := none }

/-- the primitive byte -/
def k11 : Class := { plain "byte" none with kind := .primitive 'B', accessFlags := 0x411 }
/-- [B -/
def k12 : Class := { plain "[B" (some 0) with kind := .array 11 .byte, interfaces := #[10, 2], accessFlags := 1041 }

/-- the primitive int -/
def k13 : Class := { plain "int" none with kind := .primitive 'I', accessFlags := 0x411 }
/-- [I -/
def k14 : Class := { plain "[I" (some 0) with kind := .array 13 .int, interfaces := #[10, 2], accessFlags := 1041 }

/-- [Ljava/lang/Integer; -/
def k15 : Class := { plain "[Ljava/lang/Integer;" (some 0) with kind := .array 7 (.object "java/lang/Integer"), interfaces := #[10, 2], accessFlags := 1041 }

/-- [Ljava/lang/Object; -/
def k16 : Class := { plain "[Ljava/lang/Object;" (some 0) with kind := .array 0 (.object "java/lang/Object"), interfaces := #[10, 2], accessFlags := 1041 }

def heap : Heap := #[{ cls := 8, slots := #[.int 0, .int 127, .ref 1, .null, .int 0], vm := .statics 8 },
  { cls := 15, slots := #[.ref 2, .ref 3, .ref 4, .ref 5, .ref 6, .ref 7, .ref 8, .ref 9, .ref 10, .ref 11, .ref 12, .ref 13, .ref 14, .ref 15, .ref 16, .ref 17, .ref 18, .ref 19, .ref 20, .ref 21, .ref 22, .ref 23, .ref 24, .ref 25, .ref 26, .ref 27, .ref 28, .ref 29, .ref 30, .ref 31, .ref 32, .ref 33, .ref 34, .ref 35, .ref 36, .ref 37, .ref 38, .ref 39, .ref 40, .ref 41, .ref 42, .ref 43, .ref 44, .ref 45, .ref 46, .ref 47, .ref 48, .ref 49, .ref 50, .ref 51, .ref 52, .ref 53, .ref 54, .ref 55, .ref 56, .ref 57, .ref 58, .ref 59, .ref 60, .ref 61, .ref 62, .ref 63, .ref 64, .ref 65, .ref 66, .ref 67, .ref 68, .ref 69, .ref 70, .ref 71, .ref 72, .ref 73, .ref 74, .ref 75, .ref 76, .ref 77, .ref 78, .ref 79, .ref 80, .ref 81, .ref 82, .ref 83, .ref 84, .ref 85, .ref 86, .ref 87, .ref 88, .ref 89, .ref 90, .ref 91, .ref 92, .ref 93, .ref 94, .ref 95, .ref 96, .ref 97, .ref 98, .ref 99, .ref 100, .ref 101, .ref 102, .ref 103, .ref 104, .ref 105, .ref 106, .ref 107, .ref 108, .ref 109, .ref 110, .ref 111, .ref 112, .ref 113, .ref 114, .ref 115, .ref 116, .ref 117, .ref 118, .ref 119, .ref 120, .ref 121, .ref 122, .ref 123, .ref 124, .ref 125, .ref 126, .ref 127, .ref 128, .ref 129, .ref 130, .ref 131, .ref 132, .ref 133, .ref 134, .ref 135, .ref 136, .ref 137, .ref 138, .ref 139, .ref 140, .ref 141, .ref 142, .ref 143, .ref 144, .ref 145, .ref 146, .ref 147, .ref 148, .ref 149, .ref 150, .ref 151, .ref 152, .ref 153, .ref 154, .ref 155, .ref 156, .ref 157, .ref 158, .ref 159, .ref 160, .ref 161, .ref 162, .ref 163, .ref 164, .ref 165, .ref 166, .ref 167, .ref 168, .ref 169, .ref 170, .ref 171, .ref 172, .ref 173, .ref 174, .ref 175, .ref 176, .ref 177, .ref 178, .ref 179, .ref 180, .ref 181, .ref 182, .ref 183, .ref 184, .ref 185, .ref 186, .ref 187, .ref 188, .ref 189, .ref 190, .ref 191, .ref 192, .ref 193, .ref 194, .ref 195, .ref 196, .ref 197, .ref 198, .ref 199, .ref 200, .ref 201, .ref 202, .ref 203, .ref 204, .ref 205, .ref 206, .ref 207, .ref 208, .ref 209, .ref 210, .ref 211, .ref 212, .ref 213, .ref 214, .ref 215, .ref 216, .ref 217, .ref 218, .ref 219, .ref 220, .ref 221, .ref 222, .ref 223, .ref 224, .ref 225, .ref 226, .ref 227, .ref 228, .ref 229, .ref 230, .ref 231, .ref 232, .ref 233, .ref 234, .ref 235, .ref 236, .ref 237, .ref 238, .ref 239, .ref 240, .ref 241, .ref 242, .ref 243, .ref 244, .ref 245, .ref 246, .ref 247, .ref 248, .ref 249, .ref 250, .ref 251, .ref 252, .ref 253, .ref 254, .ref 255, .ref 256, .ref 257], vm := .none },
  { cls := 7, slots := #[.int (-128)], vm := .none },
  { cls := 7, slots := #[.int (-127)], vm := .none },
  { cls := 7, slots := #[.int (-126)], vm := .none },
  { cls := 7, slots := #[.int (-125)], vm := .none },
  { cls := 7, slots := #[.int (-124)], vm := .none },
  { cls := 7, slots := #[.int (-123)], vm := .none },
  { cls := 7, slots := #[.int (-122)], vm := .none },
  { cls := 7, slots := #[.int (-121)], vm := .none },
  { cls := 7, slots := #[.int (-120)], vm := .none },
  { cls := 7, slots := #[.int (-119)], vm := .none },
  { cls := 7, slots := #[.int (-118)], vm := .none },
  { cls := 7, slots := #[.int (-117)], vm := .none },
  { cls := 7, slots := #[.int (-116)], vm := .none },
  { cls := 7, slots := #[.int (-115)], vm := .none },
  { cls := 7, slots := #[.int (-114)], vm := .none },
  { cls := 7, slots := #[.int (-113)], vm := .none },
  { cls := 7, slots := #[.int (-112)], vm := .none },
  { cls := 7, slots := #[.int (-111)], vm := .none },
  { cls := 7, slots := #[.int (-110)], vm := .none },
  { cls := 7, slots := #[.int (-109)], vm := .none },
  { cls := 7, slots := #[.int (-108)], vm := .none },
  { cls := 7, slots := #[.int (-107)], vm := .none },
  { cls := 7, slots := #[.int (-106)], vm := .none },
  { cls := 7, slots := #[.int (-105)], vm := .none },
  { cls := 7, slots := #[.int (-104)], vm := .none },
  { cls := 7, slots := #[.int (-103)], vm := .none },
  { cls := 7, slots := #[.int (-102)], vm := .none },
  { cls := 7, slots := #[.int (-101)], vm := .none },
  { cls := 7, slots := #[.int (-100)], vm := .none },
  { cls := 7, slots := #[.int (-99)], vm := .none },
  { cls := 7, slots := #[.int (-98)], vm := .none },
  { cls := 7, slots := #[.int (-97)], vm := .none },
  { cls := 7, slots := #[.int (-96)], vm := .none },
  { cls := 7, slots := #[.int (-95)], vm := .none },
  { cls := 7, slots := #[.int (-94)], vm := .none },
  { cls := 7, slots := #[.int (-93)], vm := .none },
  { cls := 7, slots := #[.int (-92)], vm := .none },
  { cls := 7, slots := #[.int (-91)], vm := .none },
  { cls := 7, slots := #[.int (-90)], vm := .none },
  { cls := 7, slots := #[.int (-89)], vm := .none },
  { cls := 7, slots := #[.int (-88)], vm := .none },
  { cls := 7, slots := #[.int (-87)], vm := .none },
  { cls := 7, slots := #[.int (-86)], vm := .none },
  { cls := 7, slots := #[.int (-85)], vm := .none },
  { cls := 7, slots := #[.int (-84)], vm := .none },
  { cls := 7, slots := #[.int (-83)], vm := .none },
  { cls := 7, slots := #[.int (-82)], vm := .none },
  { cls := 7, slots := #[.int (-81)], vm := .none },
  { cls := 7, slots := #[.int (-80)], vm := .none },
  { cls := 7, slots := #[.int (-79)], vm := .none },
  { cls := 7, slots := #[.int (-78)], vm := .none },
  { cls := 7, slots := #[.int (-77)], vm := .none },
  { cls := 7, slots := #[.int (-76)], vm := .none },
  { cls := 7, slots := #[.int (-75)], vm := .none },
  { cls := 7, slots := #[.int (-74)], vm := .none },
  { cls := 7, slots := #[.int (-73)], vm := .none },
  { cls := 7, slots := #[.int (-72)], vm := .none },
  { cls := 7, slots := #[.int (-71)], vm := .none },
  { cls := 7, slots := #[.int (-70)], vm := .none },
  { cls := 7, slots := #[.int (-69)], vm := .none },
  { cls := 7, slots := #[.int (-68)], vm := .none },
  { cls := 7, slots := #[.int (-67)], vm := .none },
  { cls := 7, slots := #[.int (-66)], vm := .none },
  { cls := 7, slots := #[.int (-65)], vm := .none },
  { cls := 7, slots := #[.int (-64)], vm := .none },
  { cls := 7, slots := #[.int (-63)], vm := .none },
  { cls := 7, slots := #[.int (-62)], vm := .none },
  { cls := 7, slots := #[.int (-61)], vm := .none },
  { cls := 7, slots := #[.int (-60)], vm := .none },
  { cls := 7, slots := #[.int (-59)], vm := .none },
  { cls := 7, slots := #[.int (-58)], vm := .none },
  { cls := 7, slots := #[.int (-57)], vm := .none },
  { cls := 7, slots := #[.int (-56)], vm := .none },
  { cls := 7, slots := #[.int (-55)], vm := .none },
  { cls := 7, slots := #[.int (-54)], vm := .none },
  { cls := 7, slots := #[.int (-53)], vm := .none },
  { cls := 7, slots := #[.int (-52)], vm := .none },
  { cls := 7, slots := #[.int (-51)], vm := .none },
  { cls := 7, slots := #[.int (-50)], vm := .none },
  { cls := 7, slots := #[.int (-49)], vm := .none },
  { cls := 7, slots := #[.int (-48)], vm := .none },
  { cls := 7, slots := #[.int (-47)], vm := .none },
  { cls := 7, slots := #[.int (-46)], vm := .none },
  { cls := 7, slots := #[.int (-45)], vm := .none },
  { cls := 7, slots := #[.int (-44)], vm := .none },
  { cls := 7, slots := #[.int (-43)], vm := .none },
  { cls := 7, slots := #[.int (-42)], vm := .none },
  { cls := 7, slots := #[.int (-41)], vm := .none },
  { cls := 7, slots := #[.int (-40)], vm := .none },
  { cls := 7, slots := #[.int (-39)], vm := .none },
  { cls := 7, slots := #[.int (-38)], vm := .none },
  { cls := 7, slots := #[.int (-37)], vm := .none },
  { cls := 7, slots := #[.int (-36)], vm := .none },
  { cls := 7, slots := #[.int (-35)], vm := .none },
  { cls := 7, slots := #[.int (-34)], vm := .none },
  { cls := 7, slots := #[.int (-33)], vm := .none },
  { cls := 7, slots := #[.int (-32)], vm := .none },
  { cls := 7, slots := #[.int (-31)], vm := .none },
  { cls := 7, slots := #[.int (-30)], vm := .none },
  { cls := 7, slots := #[.int (-29)], vm := .none },
  { cls := 7, slots := #[.int (-28)], vm := .none },
  { cls := 7, slots := #[.int (-27)], vm := .none },
  { cls := 7, slots := #[.int (-26)], vm := .none },
  { cls := 7, slots := #[.int (-25)], vm := .none },
  { cls := 7, slots := #[.int (-24)], vm := .none },
  { cls := 7, slots := #[.int (-23)], vm := .none },
  { cls := 7, slots := #[.int (-22)], vm := .none },
  { cls := 7, slots := #[.int (-21)], vm := .none },
  { cls := 7, slots := #[.int (-20)], vm := .none },
  { cls := 7, slots := #[.int (-19)], vm := .none },
  { cls := 7, slots := #[.int (-18)], vm := .none },
  { cls := 7, slots := #[.int (-17)], vm := .none },
  { cls := 7, slots := #[.int (-16)], vm := .none },
  { cls := 7, slots := #[.int (-15)], vm := .none },
  { cls := 7, slots := #[.int (-14)], vm := .none },
  { cls := 7, slots := #[.int (-13)], vm := .none },
  { cls := 7, slots := #[.int (-12)], vm := .none },
  { cls := 7, slots := #[.int (-11)], vm := .none },
  { cls := 7, slots := #[.int (-10)], vm := .none },
  { cls := 7, slots := #[.int (-9)], vm := .none },
  { cls := 7, slots := #[.int (-8)], vm := .none },
  { cls := 7, slots := #[.int (-7)], vm := .none },
  { cls := 7, slots := #[.int (-6)], vm := .none },
  { cls := 7, slots := #[.int (-5)], vm := .none },
  { cls := 7, slots := #[.int (-4)], vm := .none },
  { cls := 7, slots := #[.int (-3)], vm := .none },
  { cls := 7, slots := #[.int (-2)], vm := .none },
  { cls := 7, slots := #[.int (-1)], vm := .none },
  { cls := 7, slots := #[.int 0], vm := .none },
  { cls := 7, slots := #[.int 1], vm := .none },
  { cls := 7, slots := #[.int 2], vm := .none },
  { cls := 7, slots := #[.int 3], vm := .none },
  { cls := 7, slots := #[.int 4], vm := .none },
  { cls := 7, slots := #[.int 5], vm := .none },
  { cls := 7, slots := #[.int 6], vm := .none },
  { cls := 7, slots := #[.int 7], vm := .none },
  { cls := 7, slots := #[.int 8], vm := .none },
  { cls := 7, slots := #[.int 9], vm := .none },
  { cls := 7, slots := #[.int 10], vm := .none },
  { cls := 7, slots := #[.int 11], vm := .none },
  { cls := 7, slots := #[.int 12], vm := .none },
  { cls := 7, slots := #[.int 13], vm := .none },
  { cls := 7, slots := #[.int 14], vm := .none },
  { cls := 7, slots := #[.int 15], vm := .none },
  { cls := 7, slots := #[.int 16], vm := .none },
  { cls := 7, slots := #[.int 17], vm := .none },
  { cls := 7, slots := #[.int 18], vm := .none },
  { cls := 7, slots := #[.int 19], vm := .none },
  { cls := 7, slots := #[.int 20], vm := .none },
  { cls := 7, slots := #[.int 21], vm := .none },
  { cls := 7, slots := #[.int 22], vm := .none },
  { cls := 7, slots := #[.int 23], vm := .none },
  { cls := 7, slots := #[.int 24], vm := .none },
  { cls := 7, slots := #[.int 25], vm := .none },
  { cls := 7, slots := #[.int 26], vm := .none },
  { cls := 7, slots := #[.int 27], vm := .none },
  { cls := 7, slots := #[.int 28], vm := .none },
  { cls := 7, slots := #[.int 29], vm := .none },
  { cls := 7, slots := #[.int 30], vm := .none },
  { cls := 7, slots := #[.int 31], vm := .none },
  { cls := 7, slots := #[.int 32], vm := .none },
  { cls := 7, slots := #[.int 33], vm := .none },
  { cls := 7, slots := #[.int 34], vm := .none },
  { cls := 7, slots := #[.int 35], vm := .none },
  { cls := 7, slots := #[.int 36], vm := .none },
  { cls := 7, slots := #[.int 37], vm := .none },
  { cls := 7, slots := #[.int 38], vm := .none },
  { cls := 7, slots := #[.int 39], vm := .none },
  { cls := 7, slots := #[.int 40], vm := .none },
  { cls := 7, slots := #[.int 41], vm := .none },
  { cls := 7, slots := #[.int 42], vm := .none },
  { cls := 7, slots := #[.int 43], vm := .none },
  { cls := 7, slots := #[.int 44], vm := .none },
  { cls := 7, slots := #[.int 45], vm := .none },
  { cls := 7, slots := #[.int 46], vm := .none },
  { cls := 7, slots := #[.int 47], vm := .none },
  { cls := 7, slots := #[.int 48], vm := .none },
  { cls := 7, slots := #[.int 49], vm := .none },
  { cls := 7, slots := #[.int 50], vm := .none },
  { cls := 7, slots := #[.int 51], vm := .none },
  { cls := 7, slots := #[.int 52], vm := .none },
  { cls := 7, slots := #[.int 53], vm := .none },
  { cls := 7, slots := #[.int 54], vm := .none },
  { cls := 7, slots := #[.int 55], vm := .none },
  { cls := 7, slots := #[.int 56], vm := .none },
  { cls := 7, slots := #[.int 57], vm := .none },
  { cls := 7, slots := #[.int 58], vm := .none },
  { cls := 7, slots := #[.int 59], vm := .none },
  { cls := 7, slots := #[.int 60], vm := .none },
  { cls := 7, slots := #[.int 61], vm := .none },
  { cls := 7, slots := #[.int 62], vm := .none },
  { cls := 7, slots := #[.int 63], vm := .none },
  { cls := 7, slots := #[.int 64], vm := .none },
  { cls := 7, slots := #[.int 65], vm := .none },
  { cls := 7, slots := #[.int 66], vm := .none },
  { cls := 7, slots := #[.int 67], vm := .none },
  { cls := 7, slots := #[.int 68], vm := .none },
  { cls := 7, slots := #[.int 69], vm := .none },
  { cls := 7, slots := #[.int 70], vm := .none },
  { cls := 7, slots := #[.int 71], vm := .none },
  { cls := 7, slots := #[.int 72], vm := .none },
  { cls := 7, slots := #[.int 73], vm := .none },
  { cls := 7, slots := #[.int 74], vm := .none },
  { cls := 7, slots := #[.int 75], vm := .none },
  { cls := 7, slots := #[.int 76], vm := .none },
  { cls := 7, slots := #[.int 77], vm := .none },
  { cls := 7, slots := #[.int 78], vm := .none },
  { cls := 7, slots := #[.int 79], vm := .none },
  { cls := 7, slots := #[.int 80], vm := .none },
  { cls := 7, slots := #[.int 81], vm := .none },
  { cls := 7, slots := #[.int 82], vm := .none },
  { cls := 7, slots := #[.int 83], vm := .none },
  { cls := 7, slots := #[.int 84], vm := .none },
  { cls := 7, slots := #[.int 85], vm := .none },
  { cls := 7, slots := #[.int 86], vm := .none },
  { cls := 7, slots := #[.int 87], vm := .none },
  { cls := 7, slots := #[.int 88], vm := .none },
  { cls := 7, slots := #[.int 89], vm := .none },
  { cls := 7, slots := #[.int 90], vm := .none },
  { cls := 7, slots := #[.int 91], vm := .none },
  { cls := 7, slots := #[.int 92], vm := .none },
  { cls := 7, slots := #[.int 93], vm := .none },
  { cls := 7, slots := #[.int 94], vm := .none },
  { cls := 7, slots := #[.int 95], vm := .none },
  { cls := 7, slots := #[.int 96], vm := .none },
  { cls := 7, slots := #[.int 97], vm := .none },
  { cls := 7, slots := #[.int 98], vm := .none },
  { cls := 7, slots := #[.int 99], vm := .none },
  { cls := 7, slots := #[.int 100], vm := .none },
  { cls := 7, slots := #[.int 101], vm := .none },
  { cls := 7, slots := #[.int 102], vm := .none },
  { cls := 7, slots := #[.int 103], vm := .none },
  { cls := 7, slots := #[.int 104], vm := .none },
  { cls := 7, slots := #[.int 105], vm := .none },
  { cls := 7, slots := #[.int 106], vm := .none },
  { cls := 7, slots := #[.int 107], vm := .none },
  { cls := 7, slots := #[.int 108], vm := .none },
  { cls := 7, slots := #[.int 109], vm := .none },
  { cls := 7, slots := #[.int 110], vm := .none },
  { cls := 7, slots := #[.int 111], vm := .none },
  { cls := 7, slots := #[.int 112], vm := .none },
  { cls := 7, slots := #[.int 113], vm := .none },
  { cls := 7, slots := #[.int 114], vm := .none },
  { cls := 7, slots := #[.int 115], vm := .none },
  { cls := 7, slots := #[.int 116], vm := .none },
  { cls := 7, slots := #[.int 117], vm := .none },
  { cls := 7, slots := #[.int 118], vm := .none },
  { cls := 7, slots := #[.int 119], vm := .none },
  { cls := 7, slots := #[.int 120], vm := .none },
  { cls := 7, slots := #[.int 121], vm := .none },
  { cls := 7, slots := #[.int 122], vm := .none },
  { cls := 7, slots := #[.int 123], vm := .none },
  { cls := 7, slots := #[.int 124], vm := .none },
  { cls := 7, slots := #[.int 125], vm := .none },
  { cls := 7, slots := #[.int 126], vm := .none },
  { cls := 7, slots := #[.int 127], vm := .none }]
def classes : Array Class := #[k0, k1, k2, k3, k4, k5, k6, k7, k8, k9, k10, k11, k12, k13, k14, k15, k16]
def interned : List (Array UInt16 × Addr) := []
def slotsUsed : Nat := 517
def theMethod : MethodId := ⟨1, 1⟩
def args0 : Array Value := #[.int 6, .int 5, .int 7, .int 9, .int 2]
def aboutOver (below : List Frame) : State where
  vm := { classes := classes, interned := interned.toArray }
  heap := heap
  slotsUsed := slotsUsed
  threads := #[{ frames := .invoking theMethod args0 :: below }]
def below0 : List Frame := [.native { method := ⟨0, 0⟩, args := #[] }]
def about1 : State := aboutOver below0
def p0 : Program := .bare "" "" ""
def e0 : Env := launch0.env 0 0 0
theorem w_frames : about1.frames = Frame.invoking theMethod args0 :: below0 := rfl
set_option maxRecDepth 65536 in
theorem w_args : argsFit about1.vm theMethod args0 = true := by decide +kernel
set_option maxRecDepth 65536 in
theorem w_heap : heapFits about1 = true := by decide +kernel
set_option maxRecDepth 65536 in
theorem w_runnable : about1.curStatus? = some .runnable := by decide +kernel
set_option maxRecDepth 65536 in
theorem w_alone : about1.alone = true := by decide +kernel
set_option maxRecDepth 65536 in
theorem w_named : about1.methodNamed? x = some theMethod := by decide +kernel
set_option maxRecDepth 65536 in
theorem w_hears : about1.hears theMethod below0 = true := by decide +kernel
set_option maxRecDepth 65536 in
theorem w_ripe : about1.ripe theMethod args0 below0 = true := by decide +kernel
theorem w_running : about1.status = .running := rfl
set_option maxRecDepth 65536 in
theorem w_room : about1.hasRoom e0.platform room_1 = true :=
  launch0.hasRoom_least _ room_1 (by decide +kernel) (by decide +kernel) (by decide +kernel) (by decide +kernel) (by decide +kernel) (by decide +kernel)
theorem allAtoms_all (ts : List Jvm.Cond) (a : Array Jvm.Value) (st : Jvm.State) : (allAtoms ts).before a st = ts.all (fun c => c.before a st) := by
  induction ts with
  | nil => rfl
  | cons c t ih =>
    show (Jvm.Cond.and c (allAtoms t)).before a st = _
    rw [Jvm.Cond.before_and, ih, List.all_cons]
def words1 : List Jvm.Cond := Jvm.Cond.code x code maxLocals ret :: tables_1
/-- a 'code' word, met by the world's own term for the bytes: nothing is compared byte by byte -/
theorem code_word {y : MethodName} {bytes : ByteArray} {mx : Nat} {rt : Option FieldType} {a : Array Value} {s : State} {m : MethodId} {meth : Method} {c : Code} (h1 : s.methodNamed? y = some m) (h2 : s.vm.method? m = some meth) (h3 : meth.code = some c) (h4 : c.code = bytes)
    (h5 : (c.maxLocals == mx && c.exceptionTable.isEmpty && decide (c.maxStack ≤ mostOperands) && decide (meth.sig.returnType = rt) && !meth.locks && decide (parseMethodDescriptor y.desc = some meth.sig)) = true) : (Jvm.Cond.code y bytes mx rt).before a s = true := by
  simp only [Bool.and_eq_true, beq_iff_eq, Bool.not_eq_true', decide_eq_true_eq] at h5
  obtain ⟨⟨⟨⟨⟨g1, g2⟩, g3⟩, g4⟩, g5⟩, g6⟩ := h5
  simp [Cond.before, Cond.holds, Cond.value, h1, h2, h3, h4, g1, g2, g3, g4, g5, g6]
def isCode : Jvm.Cond → Bool
  | .code _ _ _ _ => true
  | _ => false
theorem all_split {L : List Jvm.Cond} {P : Jvm.Cond → Bool} (h1 : L.all (fun c => isCode c || P c) = true) (h2 : ∀ c ∈ L.filter isCode, P c = true) : L.all P = true := by
  refine List.all_eq_true.mpr fun c hc => ?_
  have h := List.all_eq_true.mp h1 c hc
  rcases Bool.eq_false_or_eq_true (isCode c) with hi | hi
  · exact h2 c (List.mem_filter.mpr ⟨hc, hi⟩)
  · simpa [hi] using h
set_option maxRecDepth 65536 in
theorem w_c0 : (Jvm.Cond.code x code maxLocals ret).before args0 about1 = true := code_word (m := ⟨1, 1⟩) (meth := k1m1) (c := k1c1) (by decide +kernel) rfl rfl rfl (by decide +kernel)
set_option maxRecDepth 65536 in
theorem w_c1 : (Jvm.Cond.code ({ cls := "java/lang/Integer", name := "valueOf", desc := "(I)Ljava/lang/Integer;" } : Jvm.MethodName) jdk_33_method_22_code (1 : Nat) (Option.some (Jvm.ClassFile.FieldType.object "java/lang/Integer"))).before args0 about1 = true := code_word (m := ⟨7, 0⟩) (meth := k7m0) (c := k7c0) (by decide +kernel) rfl rfl rfl (by decide +kernel)
set_option maxRecDepth 65536 in
theorem w_c2 : (Jvm.Cond.code ({ cls := "com/example/wilt/wilt/core/ExpirySlots$Run", name := "<init>", desc := "()V" } : Jvm.MethodName) prog_12_method_1_code (1 : Nat) (Option.none : Option Jvm.ClassFile.FieldType)).before args0 about1 = true := code_word (m := ⟨9, 0⟩) (meth := k9m0) (c := k9c0) (by decide +kernel) rfl rfl rfl (by decide +kernel)
set_option maxRecDepth 65536 in
theorem w_c3 : (Jvm.Cond.code ({ cls := "java/lang/Object", name := "<init>", desc := "()V" } : Jvm.MethodName) object_method_1_code (1 : Nat) (Option.none : Option Jvm.ClassFile.FieldType)).before args0 about1 = true := code_word (m := ⟨0, 0⟩) (meth := k0m0) (c := k0c0) (by decide +kernel) rfl rfl rfl (by decide +kernel)
set_option maxRecDepth 65536 in
theorem w_c4 : (Jvm.Cond.code ({ cls := "com/example/wilt/wilt/core/ExpirySlots$Run", name := "first", desc := "(I)Ljava/lang/Object;" } : Jvm.MethodName) prog_12_method_9_code (2 : Nat) (Option.some (Jvm.ClassFile.FieldType.object "java/lang/Object"))).before args0 about1 = true := code_word (m := ⟨9, 1⟩) (meth := k9m1) (c := k9c1) (by decide +kernel) rfl rfl rfl (by decide +kernel)
set_option maxRecDepth 65536 in
theorem w_c5 : (Jvm.Cond.code ({ cls := "java/lang/Integer", name := "intValue", desc := "()I" } : Jvm.MethodName) jdk_33_method_27_code (1 : Nat) (Option.some Jvm.ClassFile.FieldType.int)).before args0 about1 = true := code_word (m := ⟨7, 2⟩) (meth := k7m2) (c := k7c2) (by decide +kernel) rfl rfl rfl (by decide +kernel)
set_option maxRecDepth 65536 in
theorem w_c6 : (Jvm.Cond.code ({ cls := "java/lang/Integer", name := "<init>", desc := "(I)V" } : Jvm.MethodName) jdk_33_method_23_code (2 : Nat) (Option.none : Option Jvm.ClassFile.FieldType)).before args0 about1 = true := code_word (m := ⟨7, 1⟩) (meth := k7m1) (c := k7c1) (by decide +kernel) rfl rfl rfl (by decide +kernel)
set_option maxRecDepth 65536 in
theorem w_c7 : (Jvm.Cond.code ({ cls := "java/lang/Number", name := "<init>", desc := "()V" } : Jvm.MethodName) jdk_18_method_1_code (1 : Nat) (Option.none : Option Jvm.ClassFile.FieldType)).before args0 about1 = true := code_word (m := ⟨3, 0⟩) (meth := k3m0) (c := k3c0) (by decide +kernel) rfl rfl rfl (by decide +kernel)
def codes1 : List Jvm.Cond := [Jvm.Cond.code x code maxLocals ret, Jvm.Cond.code ({ cls := "java/lang/Integer", name := "valueOf", desc := "(I)Ljava/lang/Integer;" } : Jvm.MethodName) jdk_33_method_22_code (1 : Nat) (Option.some (Jvm.ClassFile.FieldType.object "java/lang/Integer")), Jvm.Cond.code ({ cls := "com/example/wilt/wilt/core/ExpirySlots$Run", name := "<init>", desc := "()V" } : Jvm.MethodName) prog_12_method_1_code (1 : Nat) (Option.none : Option Jvm.ClassFile.FieldType), Jvm.Cond.code ({ cls := "java/lang/Object", name := "<init>", desc := "()V" } : Jvm.MethodName) object_method_1_code (1 : Nat) (Option.none : Option Jvm.ClassFile.FieldType), Jvm.Cond.code ({ cls := "com/example/wilt/wilt/core/ExpirySlots$Run", name := "first", desc := "(I)Ljava/lang/Object;" } : Jvm.MethodName) prog_12_method_9_code (2 : Nat) (Option.some (Jvm.ClassFile.FieldType.object "java/lang/Object")), Jvm.Cond.code ({ cls := "java/lang/Integer", name := "intValue", desc := "()I" } : Jvm.MethodName) jdk_33_method_27_code (1 : Nat) (Option.some Jvm.ClassFile.FieldType.int), Jvm.Cond.code ({ cls := "java/lang/Integer", name := "<init>", desc := "(I)V" } : Jvm.MethodName) jdk_33_method_23_code (2 : Nat) (Option.none : Option Jvm.ClassFile.FieldType), Jvm.Cond.code ({ cls := "java/lang/Number", name := "<init>", desc := "()V" } : Jvm.MethodName) jdk_18_method_1_code (1 : Nat) (Option.none : Option Jvm.ClassFile.FieldType)]
set_option maxRecDepth 65536 in
theorem codes_eq : words1.filter isCode = codes1 := rfl
theorem w_codes : ∀ c ∈ words1.filter isCode, c.before args0 about1 = true := by
  rw [codes_eq]
  intro c hc
  simp only [codes1, List.mem_cons, List.not_mem_nil, or_false] at hc
  rcases hc with rfl | rfl | rfl | rfl | rfl | rfl | rfl | rfl
  · exact w_c0
  · exact w_c1
  · exact w_c2
  · exact w_c3
  · exact w_c4
  · exact w_c5
  · exact w_c6
  · exact w_c7
set_option maxRecDepth 65536 in
theorem w_t1 : (words1.take 24).all (fun c => isCode c || c.before args0 about1) = true := by decide +kernel
set_option maxRecDepth 65536 in
theorem w_t2 : ((words1.drop 24).take 24).all (fun c => isCode c || c.before args0 about1) = true := by decide +kernel
set_option maxRecDepth 65536 in
theorem w_t3 : ((words1.drop 24).drop 24).all (fun c => isCode c || c.before args0 about1) = true := by decide +kernel
theorem w_tables : (allAtoms (Jvm.Cond.code x code maxLocals ret :: tables_1)).before args0 about1 = true := by
  rw [allAtoms_all]
  show words1.all (fun c => c.before args0 about1) = true
  refine all_split ?_ w_codes
  rw [← List.take_append_drop 24 words1, List.all_append, w_t1, ← List.take_append_drop 24 (words1.drop 24), List.all_append, w_t2, w_t3]
  rfl
set_option maxRecDepth 65536 in
theorem w_rest : rest_1_c.before args0 about1 = true := by decide +kernel
set_option maxRecDepth 65536 in
theorem w_case : (Jvm.Cond.and given_1 narrow_1).before args0 about1 = true := by decide +kernel
theorem w_applies : (headSpec (Jvm.Cond.code x code maxLocals ret :: tables_1) room_1).applies x e0.platform about1 = true :=
  (Spec.applies_iff w_frames).mpr ⟨w_running, w_runnable, w_alone, w_named, w_hears, w_ripe, w_room, w_tables⟩
theorem atStart : AtStart classFile x code maxLocals ret World_1 tables_1 room_1 Calls_1 rest_1 Pre_1 launch0 p0 e0 about1 theMethod args0 below0 :=
  ⟨lists_1, trivial, launch0.admits_env _ _ _, launch0.least_env, fairChoices_fair.cas, fairChoices_fair.clock, w_frames, w_args, w_heap, w_applies, trivial, w_rest, w_case⟩
end start1
theorem witness_1 : WitnessClaimed_1 := ⟨start1.p0, start1.e0, start1.about1, start1.theMethod, start1.args0, start1.below0, start1.atStart⟩
end Jvm.Pilot.@@N@@
