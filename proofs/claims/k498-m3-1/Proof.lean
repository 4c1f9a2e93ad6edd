import JvmDerived
import JvmDerived.Pilot.@@N@@Statement
import JvmDerived.Pilot.@@N@@Code
set_option linter.unusedVariables false
set_option linter.unusedSimpArgs false
namespace Jvm.RoadKit
open Sem ClassFile Op Lib Jvm.Stand Jvm.Free Jvm.LawKit
section New
variable {p : Program} {l : Launch} {e : Env} {R : Room} {s : State} {m : MethodId} {args : Array Value} {below : List Frame} {meth : Method} {c : Code} {T : State} {locs : List Loc} {cells slots : Nat}
theorem retI (X : Stand p l e R s m args below meth c T locs cells slots) (hx : p.tables.exec = Jvm.exec) {pc : Nat} {Ls : Array Slot} {z : Int32} {rest : List Value} (hret : meth.sig.returnType = some .int) (hd : decode c.code pc = .ok (.ireturn, 1)) {fs : List Frame}
    (hl : ∀ (f : JFrame) (acts : List Action), f.method = m → f.locked = none → f.entered = [] → (doReturn e (T.setTop f) acts (some (.int z))).1 = T.setFrames fs) : Steps p.tables e below (T.setTop (mkF m pc Ls (.int z :: rest))) (T.setFrames fs) := by
  have hm' : T.vm.method? m = some meth := X.method'
  have hn : narrow .int (.int z) = .int z := rfl
  show Steps p.tables e below (T.setTop { method := m, pc := pc, locals := Ls, stack := _ :: rest, locked := none }) _
  jvm_step X.here [X.here.top, hx, hd, hm', hret, hn]
  first | (intro acts; rw [hl _ acts rfl rfl rfl]) | rw [hl _ _ rfl rfl rfl]
  exact Steps.refl _
end New
end Jvm.RoadKit
namespace Jvm.Pilot.@@N@@
open Jvm Jvm.ClassFile Sem Op Lib Jvm.Free Jvm.Stand Jvm.LawKit Jvm.RoadKit Bundle Jvm.Pilot.@@N@@.Jvm.D
/-- from the state A the run comes to the state B -/
def own_go (p : Program) (e : Env) (below : List Frame) (A B : State) : Prop := ∀ t, Steps p.tables e below B t → Steps p.tables e below A t
theorem own_wide {p : Program} {l : Launch} {e : Env} {R : Room} {s : State} {m : MethodId} {args : Array Value} {below : List Frame} {meth : Method} {c : Code} {T : State} {locs : List Loc} {cells slots k n : Nat} (X : Stand p l e R s m args below meth c T locs cells slots) (h1 : cells ≤ k) (h2 : slots ≤ n) : Stand p l e R s m args below meth c T locs k n :=
  { X with same := X.same.weaken (fun _ h _ => h) h1 h2 }
theorem own_getD {α : Type} (f : α → Value) : ∀ (l : List α) (d : α) (k : Nat), (l.map f).getD k (f d) = f (l.getD k d)
  | [], _, _ => rfl
  | _ :: _, _, 0 => rfl
  | _ :: t, d, k + 1 => own_getD f t d k
def own_la (Z : State) (h : Heap) (t : Addr) (n : Int32) : Prop := ∃ cl : Cell, Arr Z h t cl .long ∧ cl.slots.size = n.toNatClampNeg ∧ ¬ n < 0 ∧ ∀ i, i < cl.slots.size → ∃ x : Int64, cl.slots[i]? = some (.long x)
theorem own_la.lt {Z : State} {h : Heap} {t : Addr} {n : Int32} (F : own_la Z h t n) : t < h.size := by obtain ⟨cl, A, -⟩ := F; exact A.lt
theorem own_la.ext {Z : State} {h h' : Heap} {t : Addr} {n : Int32} (F : own_la Z h t n) (E : Ext h h') : own_la Z h' t n := by obtain ⟨cl, A, r⟩ := F; exact ⟨cl, A.ext E, r⟩
theorem own_la.other {Z : State} {h h' : Heap} {t a : Addr} {sl : Nat} {v : Value} {n : Int32} (F : own_la Z h t n) (W : Wr h h' a sl v) (q : t ≠ a) : own_la Z h' t n := by obtain ⟨cl, A, r⟩ := F; exact ⟨cl, A.other W q, r⟩
theorem own_la.keep {Z : State} {h h' : Heap} {t : Addr} {ws : List Addr} {n : Int32} (F : own_la Z h t n) (K : Keep h h' ws) (q : t ∉ ws) : own_la Z h' t n := by obtain ⟨cl, A, r⟩ := F; exact ⟨cl, ⟨K.2.1 t cl A.1 q, A.2⟩, r⟩
theorem own_la.new {Z : State} {h : Heap} {t : Addr} {k : ClassId} {z : Int32} (A : Arr Z h t (newA k .long z) .long) (q : ¬ z < 0) : own_la Z h t z := ⟨_, A, sz_new _ _ _, q, fun i hi => ⟨0, by
  have hi' : i < z.toNatClampNeg := by rw [sz_new] at hi; exact hi
  show (Array.replicate z.toNatClampNeg (defaultValue .long))[i]? = _
  simp [hi', defaultValue]⟩⟩
theorem own_la.st {Z : State} {h h' : Heap} {t : Addr} {sl : Nat} {x : Int64} {n : Int32} (F : own_la Z h t n) (W : Wr h h' t sl (.long x)) : own_la Z h' t n := by
  obtain ⟨cl, A, S, M, G⟩ := F
  refine ⟨_, A.same W, by rw [sz_set]; exact S, M, fun i hi => ?_⟩
  rw [sz_set] at hi
  show ∃ y, (cl.slots.setIfInBounds sl (.long x))[i]? = some (.long y)
  rw [Array.getElem?_setIfInBounds]
  split
  · rename_i e; subst e; exact ⟨x, by simp [hi]⟩
  · exact G i hi
def own_rb (n o c : Int32) : Prop := 1 ≤ n.toInt ∧ n.toInt ≤ 7 ∧ 0 ≤ o.toInt ∧ o.toInt < n.toInt ∧ 0 ≤ c.toInt ∧ c.toInt ≤ n.toInt
theorem own_nz {n : Int32} (h : 1 ≤ n.toInt) : n ≠ 0 := fun e => by subst e; exact absurd h (by decide)
theorem own_ix (n o i : Int32) (h1 : 1 ≤ n.toInt) (h2 : n.toInt ≤ 7) (h3 : 0 ≤ o.toInt) (h4 : o.toInt < n.toInt) (h5 : 0 ≤ i.toInt) (h6 : i.toInt ≤ 7) : ¬ (o + i) % n < 0 ∧ (o + i) % n < n ∧ 0 ≤ ((o + i) % n).toInt ∧ ((o + i) % n).toInt < n.toInt := by
  have a1 := c_iadd o i
  have a2 := rng32 (o + i)
  have a3 := (c_iremV (o + i) n).1 (by omega) (by omega)
  have e0 : (0 : Int32).toInt = 0 := rfl
  rw [Int32.lt_iff_toInt_lt, Int32.lt_iff_toInt_lt]
  omega
theorem own_up {n o c : Int32} (h : own_rb n o c) (q : c < n) : own_rb n o (c + 1) ∧ 0 < (c + 1).toInt := by
  obtain ⟨h1, h2, h3, h4, h5, h6⟩ := h
  rw [Int32.lt_iff_toInt_lt] at q
  have a1 := c_iadd c 1
  have a2 := rng32 (c + 1)
  have e1 : (1 : Int32).toInt = 1 := rfl
  refine ⟨⟨h1, h2, h3, h4, ?_, ?_⟩, ?_⟩ <;> omega
theorem own_full {n o c : Int32} (h : own_rb n o c) (q : ¬ c < n) : own_rb n ((o + 1) % n) c ∧ 0 < c.toInt := by
  obtain ⟨h1, h2, h3, h4, h5, h6⟩ := h
  rw [Int32.lt_iff_toInt_lt] at q
  have e1 : (1 : Int32).toInt = 1 := rfl
  obtain ⟨-, -, a1, a2⟩ := own_ix n o 1 h1 h2 h3 h4 (by decide) (by decide)
  exact ⟨⟨h1, h2, a1, a2, h5, h6⟩, by omega⟩
theorem own_selp {s : State} {args : Array Value} {y : MethodName} {n : Nat} (wi : (Jvm.Cond.instantiable y.cls n).before args s = true) (hp : s.PrivateAt y) (hinst : (Jvm.Cond.instanceMethod y).before args s = true) (hy : y.cls ≠ "java/lang/invoke/MethodHandle" ∧ y.cls ≠ "java/lang/invoke/VarHandle") : (Jvm.Cond.selects y.cls y y).before args s = true := by
  obtain ⟨c, k, h1, h2, -, h4, -⟩ := Cond.instantiable_spec wi
  simp only [Bool.or_eq_false_iff] at h4
  exact Stand.selects_self_of_private h1 h2 h4.1 hp hinst hy
theorem d1_0 : decode prog_44_method_1_code 0 = .ok (.aload_n 0, 1) := by decide +kernel
theorem d1_1 : decode prog_44_method_1_code 1 = .ok (.invokespecial 1, 3) := by decide +kernel
theorem d1_4 : decode prog_44_method_1_code 4 = .ok (.aload_n 0, 1) := by decide +kernel
theorem d1_5 : decode prog_44_method_1_code 5 = .ok (.iconst 1, 1) := by decide +kernel
theorem d1_6 : decode prog_44_method_1_code 6 = .ok (.newarray .long, 2) := by decide +kernel
theorem d1_8 : decode prog_44_method_1_code 8 = .ok (.putfield 7, 3) := by decide +kernel
theorem d1_11 : decode prog_44_method_1_code 11 = .ok (.return_, 1) := by decide +kernel
theorem own_pn_com_example_structweave_structweave_wddx_PlaceRing : plainName "com/example/structweave/structweave/wddx/PlaceRing" = true := by first | (simp [plainName, overriddenIn]; done) | decide +kernel
theorem ef_1 (m : MethodId) (x0 : Addr) : entryFrame m #[(.ref x0)] 1 = mkF m 0 #[.val (.ref x0)] [] := by first | (simp [entryFrame, mkF, argsToLocals, Value.category]; done) | rfl
def Q1 (Z : State) (a1 : Addr) (h0 : Heap) (n0 : Nat) (v : Option Value) (h : Heap) (L : List Loc) : Prop := v = none ∧ Fr n0 L ∧ Keep h0 h [a1] ∧ Exa Z h a1 "com/example/structweave/structweave/wddx/PlaceRing" ∧ ∃ t : Addr, n0 ≤ t ∧ h0.size ≤ t ∧ Fld Z h a1 "com/example/structweave/structweave/wddx/PlaceRing" "places" "[J" (.ref t) ∧ Fld Z h a1 "com/example/structweave/structweave/wddx/PlaceRing" "oldest" "I" (.int (0 : Int32)) ∧ Fld Z h a1 "com/example/structweave/structweave/wddx/PlaceRing" "count" "I" (.int (0 : Int32)) ∧ own_la Z h t (1 : Int32)
set_option maxRecDepth 65536 in
set_option maxHeartbeats 40000000 in
theorem rm1 (l : Launch) (Z : State) (a0 : Array Value) (hw : ∀ d ∈ tables_1, d.before a0 Z = true) (ws : List Jvm.Cond) (a1 : Addr) (h0 : Heap) (n0 : Nat) (Z0 : n0 ≤ h0.size) (E_a1 : Exa Z h0 a1 "com/example/structweave/structweave/wddx/PlaceRing") (g_a1 : n0 ≤ a1) (F_places : Fld Z h0 a1 "com/example/structweave/structweave/wddx/PlaceRing" "places" "[J" .null) (F_oldest : Fld Z h0 a1 "com/example/structweave/structweave/wddx/PlaceRing" "oldest" "I" (.int (0 : Int32))) (F_count : Fld Z h0 a1 "com/example/structweave/structweave/wddx/PlaceRing" "count" "I" (.int (0 : Int32))) :
    MetFree l (⟨"com/example/structweave/structweave/wddx/PlaceRing", "<init>", "()V"⟩ : MethodName) (head1 (Jvm.Cond.code (⟨"com/example/structweave/structweave/wddx/PlaceRing", "<init>", "()V"⟩ : MethodName) prog_44_method_1_code 1 none :: ws) ({ frames := 1, cells := 1, slots := 1, locals := 12 } : Room)) (fun aax UU => aax = #[(.ref a1)] ∧ Z.Warmed39 UU.vm ∧ UU.heap = h0) (fun _ _ _ _ _ => True) (fun _ UU oux UU' => ∃ rvx Lrx, oux = .returned rvx ∧ Q1 Z a1 h0 n0 rvx UU'.heap Lrx ∧ FrameEnd UU oux UU' Lrx ({ frames := 1, cells := 1, slots := 1, locals := 12 } : Room).cells ({ frames := 1, cells := 1, slots := 1, locals := 12 } : Room).slots) := by
  refine MetFree.of_bodySF (plainFor_of_name own_pn_com_example_structweave_structweave_wddx_PlaceRing) hisR ?_
  intro p e s m args below meth c s₁ Bd hml0 hP hK
  obtain ⟨rfl, hZ, hh⟩ := hP
  have hx := Bd.exec
  have hby := Bd.bytes
  have hml : c.maxLocals = 1 := hml0
  have hown : s.vm.findClass "com/example/structweave/structweave/wddx/PlaceRing" = some m.cls := findClass_of_methodNamed Bd.named
  have hnm := (name_of_methodNamed Bd.named Bd.method).1
  have X0 : Stand p l e ({ frames := 1, cells := 1, slots := 1, locals := 12 } : Room) s m #[(.ref a1)] below meth c s₁ [] 0 0 := Stand.of_body Bd
  have e0 : s₁.heap = h0 := by rw [← hh, Bd.state]; rfl
  have N0 := Fr.nil n0
  have p0 : own_go p e below (s₁.setTop (entryFrame m #[(.ref a1)] 1)) (s₁.setTop (mkF m 0 #[.val (.ref a1)] [])) := fun t k => castTop (ef_1 m a1) k
  obtain ⟨T1, X1, e1, st1⟩ := initO X0 hx hZ hown (hw _ (List.mem_of_getElem? (i := 6) rfl)) (hw _ (List.mem_of_getElem? (i := 7) rfl)) (hw _ (List.mem_of_getElem? (i := 8) rfl)) e0 (g := (mkF m 1 #[.val (.ref a1)] [(.ref a1)])) rfl (by rw [hml]; rfl) rfl (hb hby d1_1) (by decide) (W := 0) (by show 2 * 0 + _ ≤ _; exact Nat.le_of_eq rfl) (by decide)
  obtain ⟨T2, h2, k2, X2, e2, E2, A2, st2⟩ := newP X1 hx hZ (hw _ (List.mem_of_getElem? (i := 9) rfl)) e1 (g := (mkF m 6 #[.val (.ref a1)] [(.int (1 : Int32)), (.ref a1)])) rfl (hb hby d1_6) rfl (by decide) (cap := 1) (by decide) (by decide) (by decide) (by decide)
  obtain ⟨b2, g2⟩ : ∃ z, z = h0.size := ⟨_, rfl⟩
  rw [← g2] at A2 st2
  have ne3 : a1 ≠ b2 := Nat.ne_of_lt (Nat.lt_of_lt_of_le E_a1.lt (Nat.le_of_eq g2.symm))
  have g_b2 : n0 ≤ b2 := Nat.le_trans Z0 (Nat.le_of_eq g2.symm)
  have sz_b2 : h0.size ≤ b2 := Nat.le_trans (Keep.refl h0 [a1]).1 (Nat.le_of_eq g2.symm)
  have Z2 : n0 ≤ h2.size := Nat.le_trans Z0 E2.1
  have K2 : Keep h0 h2 [a1] := (Keep.refl h0 [a1]).ext E2
  have V2 : Arv Z h2 b2 k2 .long (1 : Int32) [(.long (0 : Int64))] (.long (0 : Int64)) := (Arv.new A2 (by decide)).pad (pad_rep [] (.long (0 : Int64)) 1)
  have VL2 : own_la Z h2 b2 (1 : Int32) := own_la.new A2 (by decide)
  have f4 := (F_places.ext E2)
  have f5 := (E_a1.ext E2)
  obtain ⟨T6, h6, X6, e6, W6, st6⟩ := putF X2 hx hZ hown (host := "") (Or.inl (hw _ (List.mem_of_getElem? (i := 10) rfl))) Via.refl e2 f4 f5 (Or.inl (hw _ (List.mem_of_getElem? (i := 11) rfl))) (hw _ (List.mem_of_getElem? (i := 1) rfl)) (ty := (.array .long)) (by decide) rfl rfl (g := (mkF m 8 #[.val (.ref a1)] [(.ref b2), (.ref a1)])) rfl rfl (hb hby d1_8)
  have Z6 : n0 ≤ h6.size := Nat.le_trans Z2 (Nat.le_of_eq W6.size.symm)
  have K6 : Keep h0 h6 [a1] := K2.wr W6 (Or.inl (List.mem_of_getElem? (i := 0) rfl))
  have N6 := Fr.snoc X6 N0 g_a1
  have Fw6 := f4.same W6
  have go7 : own_go p e below (s₁.setTop (entryFrame m #[(.ref a1)] 1)) (T6.setTop (mkF m 11 #[.val (.ref a1)] [])) := by
    intro ttx ktx
    refine p0 ttx ?_
    show Steps p.tables e below (s₁.setTop (mkF m 0 #[.val (.ref a1)] [])) _
    refine XS.aloadN X0.here hx rfl (hb hby d1_0) rfl rfl ?_
    show Steps p.tables e below (s₁.setTop (mkF m 1 #[.val (.ref a1)] [(.ref a1)])) _
    refine st1 _ ?_
    show Steps p.tables e below (T1.setTop (mkF m 4 #[.val (.ref a1)] [])) _
    refine XS.aloadN X1.here hx rfl (hb hby d1_4) rfl rfl ?_
    show Steps p.tables e below (T1.setTop (mkF m 5 #[.val (.ref a1)] [(.ref a1)])) _
    refine XS.iconst X1.here hx rfl (hb hby d1_5) ?_
    show Steps p.tables e below (T1.setTop (mkF m 6 #[.val (.ref a1)] [(.int (1 : Int32)), (.ref a1)])) _
    refine st2 _ ?_
    show Steps p.tables e below (T2.setTop (mkF m 8 #[.val (.ref a1)] [(.ref b2), (.ref a1)])) _
    refine st6 _ ?_
    exact ktx
  obtain ⟨fs, hr, hrun, hended, hW, hsame⟩ := X6.leave (v := none) (fun _ => rfl)
  refine ⟨_, _, go7 _ ?_, hrun, hended, _, _, rfl, ?_, ⟨_, rfl⟩, hW, hsame.mono (by decide) (by decide)⟩
  · exact X6.returnOut hx Bd.returns (hb hby d1_11) hr
  · show Q1 Z a1 h0 n0 _ T6.heap _
    rw [e6]
    have f8 := (f5.wr W6)
    have f9 := ((F_oldest.ext E2).other W6 (Or.inr (slot_ne (Or.inl (hw _ (List.mem_of_getElem? (i := 25) rfl))) (Or.inl (hw _ (List.mem_of_getElem? (i := 11) rfl))) (by decide) (t := .int) (t' := (.array .long)) (by decide) (by decide))))
    have f10 := ((F_count.ext E2).other W6 (Or.inr (slot_ne (Or.inl (hw _ (List.mem_of_getElem? (i := 18) rfl))) (Or.inl (hw _ (List.mem_of_getElem? (i := 11) rfl))) (by decide) (t := .int) (t' := (.array .long)) (by decide) (by decide))))
    have f11 := (VL2.other W6 (Ne.symm ne3))
    exact ⟨rfl, N6, K6, f8, b2, g_b2, sz_b2, Fw6, f9, f10, f11⟩
theorem d3_0 : decode prog_44_method_4_code 0 = .ok (.aload_n 0, 1) := by decide +kernel
theorem d3_1 : decode prog_44_method_4_code 1 = .ok (.getfield 17, 3) := by decide +kernel
theorem d3_4 : decode prog_44_method_4_code 4 = .ok (.ifCond .ne 7, 3) := by decide +kernel
theorem d3_7 : decode prog_44_method_4_code 7 = .ok (.iconst 1, 1) := by decide +kernel
theorem d3_8 : decode prog_44_method_4_code 8 = .ok (.goto 4, 3) := by decide +kernel
theorem d3_11 : decode prog_44_method_4_code 11 = .ok (.iconst 0, 1) := by decide +kernel
theorem d3_12 : decode prog_44_method_4_code 12 = .ok (.ireturn, 1) := by decide +kernel
theorem ef_3 (m : MethodId) (x0 : Addr) : entryFrame m #[(.ref x0)] 1 = mkF m 0 #[.val (.ref x0)] [] := by first | (simp [entryFrame, mkF, argsToLocals, Value.category]; done) | rfl
def Q3 (Z : State) (a1 : Addr) (z : Int32) (h0 : Heap) (n0 : Nat) (v : Option Value) (h : Heap) (L : List Loc) : Prop := v = some (.int (if z = (0 : Int32) then (1 : Int32) else (0 : Int32))) ∧ Fr n0 L ∧ h = h0
set_option maxRecDepth 65536 in
set_option maxHeartbeats 40000000 in
theorem rm3 (l : Launch) (Z : State) (a0 : Array Value) (hw : ∀ d ∈ tables_1, d.before a0 Z = true) (ws : List Jvm.Cond) (a1 : Addr) (z : Int32) (h0 : Heap) (n0 : Nat) (Z0 : n0 ≤ h0.size) (F_count : Fld Z h0 a1 "com/example/structweave/structweave/wddx/PlaceRing" "count" "I" (.int z)) :
    MetFree l (⟨"com/example/structweave/structweave/wddx/PlaceRing", "isEmpty", "()Z"⟩ : MethodName) (head1 (Jvm.Cond.code (⟨"com/example/structweave/structweave/wddx/PlaceRing", "isEmpty", "()Z"⟩ : MethodName) prog_44_method_4_code 1 (some .boolean) :: ws) ({ frames := 0, cells := 0, slots := 0, locals := 0 } : Room)) (fun aax UU => aax = #[(.ref a1)] ∧ Z.Warmed39 UU.vm ∧ UU.heap = h0) (fun _ _ _ _ _ => True) (fun _ UU oux UU' => ∃ rvx Lrx, oux = .returned rvx ∧ Q3 Z a1 z h0 n0 rvx UU'.heap Lrx ∧ FrameEnd UU oux UU' Lrx ({ frames := 0, cells := 0, slots := 0, locals := 0 } : Room).cells ({ frames := 0, cells := 0, slots := 0, locals := 0 } : Room).slots) := by
  refine MetFree.of_bodySF (plainFor_of_name own_pn_com_example_structweave_structweave_wddx_PlaceRing) hisR ?_
  intro p e s m args below meth c s₁ Bd hml0 hP hK
  obtain ⟨rfl, hZ, hh⟩ := hP
  have hx := Bd.exec
  have hby := Bd.bytes
  have hml : c.maxLocals = 1 := hml0
  have hown : s.vm.findClass "com/example/structweave/structweave/wddx/PlaceRing" = some m.cls := findClass_of_methodNamed Bd.named
  have hnm := (name_of_methodNamed Bd.named Bd.method).1
  have X0 : Stand p l e ({ frames := 0, cells := 0, slots := 0, locals := 0 } : Room) s m #[(.ref a1)] below meth c s₁ [] 0 0 := Stand.of_body Bd
  have e0 : s₁.heap = h0 := by rw [← hh, Bd.state]; rfl
  have N0 := Fr.nil n0
  have p0 : own_go p e below (s₁.setTop (entryFrame m #[(.ref a1)] 1)) (s₁.setTop (mkF m 0 #[.val (.ref a1)] [])) := fun t k => castTop (ef_3 m a1) k
  obtain ⟨T1, X1, e1, st1⟩ := getF X0 hx hZ hown (host := "") (Or.inl (hw _ (List.mem_of_getElem? (i := 17) rfl))) Via.refl e0 F_count (g := (mkF m 1 #[.val (.ref a1)] [(.ref a1)])) rfl rfl (hb hby d3_1)
  have go2 : own_go p e below (s₁.setTop (entryFrame m #[(.ref a1)] 1)) (T1.setTop (mkF m 4 #[.val (.ref a1)] [(.int z)])) := by
    intro ttx ktx
    refine p0 ttx ?_
    show Steps p.tables e below (s₁.setTop (mkF m 0 #[.val (.ref a1)] [])) _
    refine XS.aloadN X0.here hx rfl (hb hby d3_0) rfl rfl ?_
    show Steps p.tables e below (s₁.setTop (mkF m 1 #[.val (.ref a1)] [(.ref a1)])) _
    refine st1 _ ?_
    exact ktx
  obtain ⟨v6, hv_v6, go7⟩ : ∃ (v6 : Int32), v6 = (if z = (0 : Int32) then (1 : Int32) else (0 : Int32)) ∧ own_go p e below (s₁.setTop (entryFrame m #[(.ref a1)] 1)) (T1.setTop (mkF m 12 #[.val (.ref a1)] [(.int v6)])) := by
    by_cases hc3_4 : z = (0 : Int32)
    · have go4 : own_go p e below (s₁.setTop (entryFrame m #[(.ref a1)] 1)) (T1.setTop (mkF m 12 #[.val (.ref a1)] [(.int (1 : Int32))])) := by
        intro ttx ktx
        refine go2 ttx ?_
        show Steps p.tables e below (T1.setTop (mkF m 4 #[.val (.ref a1)] [(.int z)])) _
        refine XS.ifNo X1.here hx rfl (hb hby d3_4) rfl ((if0 _ _).trans (teq hc3_4).2) ?_
        show Steps p.tables e below (T1.setTop (mkF m 7 #[.val (.ref a1)] [])) _
        refine XS.iconst X1.here hx rfl (hb hby d3_7) ?_
        show Steps p.tables e below (T1.setTop (mkF m 8 #[.val (.ref a1)] [(.int (1 : Int32))])) _
        refine XS.goto X1.here hx rfl (pc0 := 8) (pc' := 12) rfl (hb hby d3_8) (by decide) (by decide) ?_
        exact ktx
      exact ⟨_, (if_pos hc3_4).symm, go4⟩
    · have go5 : own_go p e below (s₁.setTop (entryFrame m #[(.ref a1)] 1)) (T1.setTop (mkF m 12 #[.val (.ref a1)] [(.int (0 : Int32))])) := by
        intro ttx ktx
        refine go2 ttx ?_
        show Steps p.tables e below (T1.setTop (mkF m 4 #[.val (.ref a1)] [(.int z)])) _
        refine XS.ifYes X1.here hx rfl (pc0 := 4) (pc' := 11) rfl (hb hby d3_4) rfl ((if0 _ _).trans (feq hc3_4).2) (by decide) (by decide) ?_
        show Steps p.tables e below (T1.setTop (mkF m 11 #[.val (.ref a1)] [])) _
        refine XS.iconst X1.here hx rfl (hb hby d3_11) ?_
        exact ktx
      exact ⟨_, (if_neg hc3_4).symm, go5⟩
  obtain ⟨fs, hr, hrun, hended, hW, hsame⟩ := X1.leave (v := some (.int (nar .boolean v6))) (fun h => by rw [Bd.returns] at h; cases h)
  refine ⟨_, _, go7 _ ?_, hrun, hended, _, _, rfl, ?_, ⟨_, rfl⟩, hW, hsame.mono (by decide) (by decide)⟩
  · exact retN X1 hx (t := .boolean) Bd.returns (by simp) (hb hby d3_12) hr
  · show Q3 Z a1 z h0 n0 _ T1.heap _
    rw [e1]
    exact ⟨by rw [hv_v6]; (repeat' split) <;> rfl, N0, rfl⟩
theorem d7_0 : decode jdk_33_method_42_code 0 = .ok (.iload_n 0, 1) := by decide +kernel
theorem d7_1 : decode jdk_33_method_42_code 1 = .ok (.i2l, 1) := by decide +kernel
theorem d7_2 : decode jdk_33_method_42_code 2 = .ok (.ldc2_w 262, 3) := by decide +kernel
theorem d7_5 : decode jdk_33_method_42_code 5 = .ok (.land, 1) := by decide +kernel
theorem d7_6 : decode jdk_33_method_42_code 6 = .ok (.lreturn, 1) := by decide +kernel
theorem own_pn_java_lang_Integer : plainName "java/lang/Integer" = true := by first | (simp [plainName, overriddenIn]; done) | decide +kernel
theorem ef_7 (m : MethodId) (x0 : Int32) : entryFrame m #[(.int x0)] 1 = mkF m 0 #[.val (.int x0)] [] := by first | (simp [entryFrame, mkF, argsToLocals, Value.category]; done) | rfl
def Q7 (Z : State) (p1 : Int32) (h0 : Heap) (n0 : Nat) (v : Option Value) (h : Heap) (L : List Loc) : Prop := ∃ x : Int64, v = some (.long x) ∧ Fr n0 L ∧ h = h0
set_option maxRecDepth 65536 in
set_option maxHeartbeats 40000000 in
theorem rm7 (l : Launch) (Z : State) (a0 : Array Value) (hw : ∀ d ∈ tables_1, d.before a0 Z = true) (ws : List Jvm.Cond) (p1 : Int32) (h0 : Heap) (n0 : Nat) (Z0 : n0 ≤ h0.size) :
    MetFree l (⟨"java/lang/Integer", "toUnsignedLong", "(I)J"⟩ : MethodName) (head1 (Jvm.Cond.code (⟨"java/lang/Integer", "toUnsignedLong", "(I)J"⟩ : MethodName) jdk_33_method_42_code 1 (some .long) :: ws) ({ frames := 0, cells := 0, slots := 0, locals := 0 } : Room)) (fun aax UU => aax = #[(.int p1)] ∧ Z.Warmed39 UU.vm ∧ UU.heap = h0) (fun _ _ _ _ _ => True) (fun _ UU oux UU' => ∃ rvx Lrx, oux = .returned rvx ∧ Q7 Z p1 h0 n0 rvx UU'.heap Lrx ∧ FrameEnd UU oux UU' Lrx ({ frames := 0, cells := 0, slots := 0, locals := 0 } : Room).cells ({ frames := 0, cells := 0, slots := 0, locals := 0 } : Room).slots) := by
  refine MetFree.of_bodySF (plainFor_of_name own_pn_java_lang_Integer) hisR ?_
  intro p e s m args below meth c s₁ Bd hml0 hP hK
  obtain ⟨rfl, hZ, hh⟩ := hP
  have hx := Bd.exec
  have hby := Bd.bytes
  have hml : c.maxLocals = 1 := hml0
  have hown : s.vm.findClass "java/lang/Integer" = some m.cls := findClass_of_methodNamed Bd.named
  have hnm := (name_of_methodNamed Bd.named Bd.method).1
  have X0 : Stand p l e ({ frames := 0, cells := 0, slots := 0, locals := 0 } : Room) s m #[(.int p1)] below meth c s₁ [] 0 0 := Stand.of_body Bd
  have e0 : s₁.heap = h0 := by rw [← hh, Bd.state]; rfl
  have N0 := Fr.nil n0
  have p0 : own_go p e below (s₁.setTop (entryFrame m #[(.int p1)] 1)) (s₁.setTop (mkF m 0 #[.val (.int p1)] [])) := fun t k => castTop (ef_7 m p1) k
  have go1 : own_go p e below (s₁.setTop (entryFrame m #[(.int p1)] 1)) (s₁.setTop (mkF m 6 #[.val (.int p1)] [(.long ((p1.toInt64) &&& (4294967295 : Int64)))])) := by
    intro ttx ktx
    refine p0 ttx ?_
    show Steps p.tables e below (s₁.setTop (mkF m 0 #[.val (.int p1)] [])) _
    refine XS.iloadN X0.here hx rfl (hb hby d7_0) rfl ?_
    show Steps p.tables e below (s₁.setTop (mkF m 1 #[.val (.int p1)] [(.int p1)])) _
    refine XS.i2l X0.here hx rfl (hb hby d7_1) rfl ?_
    show Steps p.tables e below (s₁.setTop (mkF m 2 #[.val (.int p1)] [(.long (p1.toInt64))])) _
    refine X0.ldc2Long hx hown (mvT hZ (hw _ (List.mem_of_getElem? (i := 39) rfl))) (g := (mkF m 2 #[.val (.int p1)] [(.long (p1.toInt64))])) rfl (hb hby d7_2) _ ?_
    show Steps p.tables e below (s₁.setTop (mkF m 5 #[.val (.int p1)] [(.long (4294967295 : Int64)), (.long (p1.toInt64))])) _
    refine XS.land X0.here hx rfl (hb hby d7_5) rfl ?_
    exact ktx
  obtain ⟨fs, hr, hrun, hended, hW, hsame⟩ := X0.leave (v := some (.long ((p1.toInt64) &&& (4294967295 : Int64)))) (fun h => by rw [Bd.returns] at h; cases h)
  refine ⟨_, _, go1 _ ?_, hrun, hended, _, _, rfl, ?_, ⟨_, rfl⟩, hW, hsame.mono (by decide) (by decide)⟩
  · exact retOut X0 hx Bd.returns rfl (Or.inr (Or.inl ⟨rfl, rfl, _, rfl⟩)) (hb hby d7_6) hr
  · show Q7 Z p1 h0 n0 _ s₁.heap _
    rw [e0]
    exact ⟨_, rfl, N0, rfl⟩
theorem d6_0 : decode prog_44_method_8_code 0 = .ok (.iload_n 0, 1) := by decide +kernel
theorem d6_1 : decode prog_44_method_8_code 1 = .ok (.i2l, 1) := by decide +kernel
theorem d6_2 : decode prog_44_method_8_code 2 = .ok (.bipush 32, 2) := by decide +kernel
theorem d6_4 : decode prog_44_method_8_code 4 = .ok (.lshl, 1) := by decide +kernel
theorem d6_5 : decode prog_44_method_8_code 5 = .ok (.iload_n 1, 1) := by decide +kernel
theorem own_pd0 : parseMethodDescriptor "(I)J" = some ⟨[.int], some .long⟩ := by decide +kernel
theorem d6_6 : decode prog_44_method_8_code 6 = .ok (.invokestatic 39, 3) := by decide +kernel
theorem d6_9 : decode prog_44_method_8_code 9 = .ok (.lor, 1) := by decide +kernel
theorem d6_10 : decode prog_44_method_8_code 10 = .ok (.lreturn, 1) := by decide +kernel
theorem ef_6 (m : MethodId) (x0 : Int32) (x1 : Int32) : entryFrame m #[(.int x0), (.int x1)] 2 = mkF m 0 #[.val (.int x0), .val (.int x1)] [] := by first | (simp [entryFrame, mkF, argsToLocals, Value.category]; done) | rfl
def Q6 (Z : State) (p1 : Int32) (p2 : Int32) (h0 : Heap) (n0 : Nat) (v : Option Value) (h : Heap) (L : List Loc) : Prop := ∃ x : Int64, v = some (.long x) ∧ Fr n0 L ∧ h = h0
set_option maxRecDepth 65536 in
set_option maxHeartbeats 40000000 in
theorem rm6 (l : Launch) (Z : State) (a0 : Array Value) (hw : ∀ d ∈ tables_1, d.before a0 Z = true) (ws : List Jvm.Cond) (p1 : Int32) (p2 : Int32) (h0 : Heap) (n0 : Nat) (Z0 : n0 ≤ h0.size) :
    MetFree l (⟨"com/example/structweave/structweave/wddx/PlaceRing", "pack", "(II)J"⟩ : MethodName) (head1 (Jvm.Cond.code (⟨"com/example/structweave/structweave/wddx/PlaceRing", "pack", "(II)J"⟩ : MethodName) prog_44_method_8_code 2 (some .long) :: ws) ({ frames := 1, cells := 0, slots := 0, locals := 14 } : Room)) (fun aax UU => aax = #[(.int p1), (.int p2)] ∧ Z.Warmed39 UU.vm ∧ UU.heap = h0) (fun _ _ _ _ _ => True) (fun _ UU oux UU' => ∃ rvx Lrx, oux = .returned rvx ∧ Q6 Z p1 p2 h0 n0 rvx UU'.heap Lrx ∧ FrameEnd UU oux UU' Lrx ({ frames := 1, cells := 0, slots := 0, locals := 14 } : Room).cells ({ frames := 1, cells := 0, slots := 0, locals := 14 } : Room).slots) := by
  refine MetFree.of_bodySF (plainFor_of_name own_pn_com_example_structweave_structweave_wddx_PlaceRing) hisR ?_
  intro p e s m args below meth c s₁ Bd hml0 hP hK
  obtain ⟨rfl, hZ, hh⟩ := hP
  have hx := Bd.exec
  have hby := Bd.bytes
  have hml : c.maxLocals = 2 := hml0
  have hown : s.vm.findClass "com/example/structweave/structweave/wddx/PlaceRing" = some m.cls := findClass_of_methodNamed Bd.named
  have hnm := (name_of_methodNamed Bd.named Bd.method).1
  have X0 : Stand p l e ({ frames := 1, cells := 0, slots := 0, locals := 14 } : Room) s m #[(.int p1), (.int p2)] below meth c s₁ [] 0 0 := Stand.of_body Bd
  have e0 : s₁.heap = h0 := by rw [← hh, Bd.state]; rfl
  have N0 := Fr.nil n0
  have p0 : own_go p e below (s₁.setTop (entryFrame m #[(.int p1), (.int p2)] 2)) (s₁.setTop (mkF m 0 #[.val (.int p1), .val (.int p2)] [])) := fun t k => castTop (ef_6 m p1 p2) k
  obtain ⟨_, _, ⟨T1, L1, k1, n1⟩, -, X1, ⟨Lc1, hQ1, l1, y1, z1⟩, st1⟩ := Jvm.LawKit.callS X0 hx (y := (⟨"java/lang/Integer", "toUnsignedLong", "(I)J"⟩ : MethodName)) hown (mvT hZ (hw _ (List.mem_of_getElem? (i := 35) rfl))) (mvT hZ (hw _ (List.mem_of_getElem? (i := 36) rfl))) (mvT hZ (hw _ (List.mem_of_getElem? (i := 37) rfl))) (mvT hZ (hw _ (List.mem_of_getElem? (i := 38) rfl))) (by decide) (backOf (W := 2) (rm7 l Z a0 hw [] p2  h0 n0 Z0 ) hZ (hw _ (List.mem_of_getElem? (i := 38) rfl)) (hw _ (List.mem_of_getElem? (i := 37) rfl)) (by decide) (by decide)) (g := (mkF m 6 #[.val (.int p1), .val (.int p2)] [(.int p2), (.long ((p1.toInt64) <<< ((32 : Int32) &&& 0x3f).toInt64))])) rfl (by rw [hml]; rfl) (argsL := [(.int p2)]) (rest := [(.long ((p1.toInt64) <<< ((32 : Int32) &&& 0x3f).toInt64))]) (lenOf own_pd0 rfl) rfl (by show 2 * 0 + _ ≤ _; exact Nat.le_of_eq rfl) (hb hby d6_6) (fun _ _ => ⟨rfl, e0, (by decide : 0 + 0 ≤ _), (by decide : 0 + 0 ≤ _)⟩)
  dsimp only [Pt.U, Pt.locs, Pt.cells, Pt.slots] at X1 l1 y1 z1 st1 hQ1
  subst l1 y1 z1
  obtain ⟨x1, rfl, Nq1, e1⟩ := hQ1
  have N1 := Fr.app N0 Nq1
  have go2 : own_go p e below (s₁.setTop (entryFrame m #[(.int p1), (.int p2)] 2)) (T1.setTop (mkF m 10 #[.val (.int p1), .val (.int p2)] [(.long (((p1.toInt64) <<< ((32 : Int32) &&& 0x3f).toInt64) ||| x1))])) := by
    intro ttx ktx
    refine p0 ttx ?_
    show Steps p.tables e below (s₁.setTop (mkF m 0 #[.val (.int p1), .val (.int p2)] [])) _
    refine XS.iloadN X0.here hx rfl (hb hby d6_0) rfl ?_
    show Steps p.tables e below (s₁.setTop (mkF m 1 #[.val (.int p1), .val (.int p2)] [(.int p1)])) _
    refine XS.i2l X0.here hx rfl (hb hby d6_1) rfl ?_
    show Steps p.tables e below (s₁.setTop (mkF m 2 #[.val (.int p1), .val (.int p2)] [(.long (p1.toInt64))])) _
    refine XS.bipush X0.here hx rfl (hb hby d6_2) ?_
    show Steps p.tables e below (s₁.setTop (mkF m 4 #[.val (.int p1), .val (.int p2)] [(.int (32 : Int32)), (.long (p1.toInt64))])) _
    refine XS.lshl X0.here hx rfl (hb hby d6_4) rfl ?_
    show Steps p.tables e below (s₁.setTop (mkF m 5 #[.val (.int p1), .val (.int p2)] [(.long ((p1.toInt64) <<< ((32 : Int32) &&& 0x3f).toInt64))])) _
    refine XS.iloadN X0.here hx rfl (hb hby d6_5) rfl ?_
    show Steps p.tables e below (s₁.setTop (mkF m 6 #[.val (.int p1), .val (.int p2)] [(.int p2), (.long ((p1.toInt64) <<< ((32 : Int32) &&& 0x3f).toInt64))])) _
    refine st1 _ ?_
    show Steps p.tables e below (T1.setTop (mkF m 9 #[.val (.int p1), .val (.int p2)] [(.long x1), (.long ((p1.toInt64) <<< ((32 : Int32) &&& 0x3f).toInt64))])) _
    refine XS.lor X1.here hx rfl (hb hby d6_9) rfl ?_
    exact ktx
  obtain ⟨fs, hr, hrun, hended, hW, hsame⟩ := X1.leave (v := some (.long (((p1.toInt64) <<< ((32 : Int32) &&& 0x3f).toInt64) ||| x1))) (fun h => by rw [Bd.returns] at h; cases h)
  refine ⟨_, _, go2 _ ?_, hrun, hended, _, _, rfl, ?_, ⟨_, rfl⟩, hW, hsame.mono (by decide) (by decide)⟩
  · exact retOut X1 hx Bd.returns rfl (Or.inr (Or.inl ⟨rfl, rfl, _, rfl⟩)) (hb hby d6_10) hr
  · show Q6 Z p1 p2 h0 n0 _ T1.heap _
    rw [e1]
    exact ⟨_, rfl, N1, rfl⟩
theorem d8_0 : decode prog_44_method_7_code 0 = .ok (.aload_n 0, 1) := by decide +kernel
theorem d8_1 : decode prog_44_method_7_code 1 = .ok (.getfield 7, 3) := by decide +kernel
theorem d8_4 : decode prog_44_method_7_code 4 = .ok (.aload_n 0, 1) := by decide +kernel
theorem d8_5 : decode prog_44_method_7_code 5 = .ok (.getfield 13, 3) := by decide +kernel
theorem d8_8 : decode prog_44_method_7_code 8 = .ok (.iload_n 1, 1) := by decide +kernel
theorem d8_9 : decode prog_44_method_7_code 9 = .ok (.iadd, 1) := by decide +kernel
theorem d8_10 : decode prog_44_method_7_code 10 = .ok (.aload_n 0, 1) := by decide +kernel
theorem d8_11 : decode prog_44_method_7_code 11 = .ok (.getfield 7, 3) := by decide +kernel
theorem d8_14 : decode prog_44_method_7_code 14 = .ok (.arraylength, 1) := by decide +kernel
theorem d8_15 : decode prog_44_method_7_code 15 = .ok (.irem, 1) := by decide +kernel
theorem d8_16 : decode prog_44_method_7_code 16 = .ok (.laload, 1) := by decide +kernel
theorem d8_17 : decode prog_44_method_7_code 17 = .ok (.lreturn, 1) := by decide +kernel
theorem ef_8 (m : MethodId) (x0 : Addr) (x1 : Int32) : entryFrame m #[(.ref x0), (.int x1)] 2 = mkF m 0 #[.val (.ref x0), .val (.int x1)] [] := by first | (simp [entryFrame, mkF, argsToLocals, Value.category]; done) | rfl
def Q8 (Z : State) (a1 : Addr) (p2 : Int32) (t : Addr) (n : Int32) (o : Int32) (k : Int32) (h0 : Heap) (n0 : Nat) (v : Option Value) (h : Heap) (L : List Loc) : Prop := ∃ x : Int64, v = some (.long x) ∧ Fr n0 L ∧ h = h0
set_option maxRecDepth 65536 in
set_option maxHeartbeats 40000000 in
theorem rm8 (l : Launch) (Z : State) (a0 : Array Value) (hw : ∀ d ∈ tables_1, d.before a0 Z = true) (ws : List Jvm.Cond) (a1 : Addr) (p2 : Int32) (t : Addr) (n : Int32) (o : Int32) (k : Int32) (h0 : Heap) (n0 : Nat) (Z0 : n0 ≤ h0.size) (F_places : Fld Z h0 a1 "com/example/structweave/structweave/wddx/PlaceRing" "places" "[J" (.ref t)) (F_oldest : Fld Z h0 a1 "com/example/structweave/structweave/wddx/PlaceRing" "oldest" "I" (.int o)) (F_count : Fld Z h0 a1 "com/example/structweave/structweave/wddx/PlaceRing" "count" "I" (.int k)) (V_t : own_la Z h0 t n) (hrb : own_rb n o k) (hp : 0 ≤ p2.toInt ∧ p2.toInt ≤ 7) :
    MetFree l (⟨"com/example/structweave/structweave/wddx/PlaceRing", "place", "(I)J"⟩ : MethodName) (head1 (Jvm.Cond.code (⟨"com/example/structweave/structweave/wddx/PlaceRing", "place", "(I)J"⟩ : MethodName) prog_44_method_7_code 2 (some .long) :: ws) ({ frames := 0, cells := 0, slots := 0, locals := 0 } : Room)) (fun aax UU => aax = #[(.ref a1), (.int p2)] ∧ Z.Warmed39 UU.vm ∧ UU.heap = h0) (fun _ _ _ _ _ => True) (fun _ UU oux UU' => ∃ rvx Lrx, oux = .returned rvx ∧ Q8 Z a1 p2 t n o k h0 n0 rvx UU'.heap Lrx ∧ FrameEnd UU oux UU' Lrx ({ frames := 0, cells := 0, slots := 0, locals := 0 } : Room).cells ({ frames := 0, cells := 0, slots := 0, locals := 0 } : Room).slots) := by
  refine MetFree.of_bodySF (plainFor_of_name own_pn_com_example_structweave_structweave_wddx_PlaceRing) hisR ?_
  intro p e s m args below meth c s₁ Bd hml0 hP hK
  obtain ⟨rfl, hZ, hh⟩ := hP
  have hx := Bd.exec
  have hby := Bd.bytes
  have hml : c.maxLocals = 2 := hml0
  have hown : s.vm.findClass "com/example/structweave/structweave/wddx/PlaceRing" = some m.cls := findClass_of_methodNamed Bd.named
  have hnm := (name_of_methodNamed Bd.named Bd.method).1
  have X0 : Stand p l e ({ frames := 0, cells := 0, slots := 0, locals := 0 } : Room) s m #[(.ref a1), (.int p2)] below meth c s₁ [] 0 0 := Stand.of_body Bd
  have e0 : s₁.heap = h0 := by rw [← hh, Bd.state]; rfl
  have N0 := Fr.nil n0
  have p0 : own_go p e below (s₁.setTop (entryFrame m #[(.ref a1), (.int p2)] 2)) (s₁.setTop (mkF m 0 #[.val (.ref a1), .val (.int p2)] [])) := fun t k => castTop (ef_8 m a1 p2) k
  obtain ⟨T1, X1, e1, st1⟩ := getF X0 hx hZ hown (host := "") (Or.inl (hw _ (List.mem_of_getElem? (i := 10) rfl))) Via.refl e0 F_places (g := (mkF m 1 #[.val (.ref a1), .val (.int p2)] [(.ref a1)])) rfl rfl (hb hby d8_1)
  obtain ⟨T2, X2, e2, st2⟩ := getF X1 hx hZ hown (host := "") (Or.inl (hw _ (List.mem_of_getElem? (i := 24) rfl))) Via.refl e1 F_oldest (g := (mkF m 5 #[.val (.ref a1), .val (.int p2)] [(.ref a1), (.ref t)])) rfl rfl (hb hby d8_5)
  obtain ⟨T3, X3, e3, st3⟩ := getF X2 hx hZ hown (host := "") (Or.inl (hw _ (List.mem_of_getElem? (i := 10) rfl))) Via.refl e2 F_places (g := (mkF m 11 #[.val (.ref a1), .val (.int p2)] [(.ref a1), (.int (o + p2)), (.ref t)])) rfl rfl (hb hby d8_11)
  obtain ⟨cl4, Ar4, S4, M4, -⟩ := id V_t
  obtain ⟨cl5, Ar5, S5, M5, G5⟩ := id V_t
  have hin5 : ¬ (((o + p2) % n) < 0 ∨ cl5.slots.size ≤ (((o + p2) % n)).toNatClampNeg) := inb_of S5 (⟨(own_ix n o p2 hrb.1 hrb.2.1 hrb.2.2.1 hrb.2.2.2.1 hp.1 hp.2).1, (own_ix n o p2 hrb.1 hrb.2.1 hrb.2.2.1 hrb.2.2.2.1 hp.1 hp.2).2.1⟩)
  obtain ⟨x5, hat5⟩ := G5 _ (Nat.lt_of_not_le fun q => hin5 (Or.inr q))
  have go6 : own_go p e below (s₁.setTop (entryFrame m #[(.ref a1), (.int p2)] 2)) (T3.setTop (mkF m 17 #[.val (.ref a1), .val (.int p2)] [(.long x5)])) := by
    intro ttx ktx
    refine p0 ttx ?_
    show Steps p.tables e below (s₁.setTop (mkF m 0 #[.val (.ref a1), .val (.int p2)] [])) _
    refine XS.aloadN X0.here hx rfl (hb hby d8_0) rfl rfl ?_
    show Steps p.tables e below (s₁.setTop (mkF m 1 #[.val (.ref a1), .val (.int p2)] [(.ref a1)])) _
    refine st1 _ ?_
    show Steps p.tables e below (T1.setTop (mkF m 4 #[.val (.ref a1), .val (.int p2)] [(.ref t)])) _
    refine XS.aloadN X1.here hx rfl (hb hby d8_4) rfl rfl ?_
    show Steps p.tables e below (T1.setTop (mkF m 5 #[.val (.ref a1), .val (.int p2)] [(.ref a1), (.ref t)])) _
    refine st2 _ ?_
    show Steps p.tables e below (T2.setTop (mkF m 8 #[.val (.ref a1), .val (.int p2)] [(.int o), (.ref t)])) _
    refine XS.iloadN X2.here hx rfl (hb hby d8_8) rfl ?_
    show Steps p.tables e below (T2.setTop (mkF m 9 #[.val (.ref a1), .val (.int p2)] [(.int p2), (.int o), (.ref t)])) _
    refine XS.iadd X2.here hx rfl (hb hby d8_9) rfl ?_
    show Steps p.tables e below (T2.setTop (mkF m 10 #[.val (.ref a1), .val (.int p2)] [(.int (o + p2)), (.ref t)])) _
    refine XS.aloadN X2.here hx rfl (hb hby d8_10) rfl rfl ?_
    show Steps p.tables e below (T2.setTop (mkF m 11 #[.val (.ref a1), .val (.int p2)] [(.ref a1), (.int (o + p2)), (.ref t)])) _
    refine st3 _ ?_
    show Steps p.tables e below (T3.setTop (mkF m 14 #[.val (.ref a1), .val (.int p2)] [(.ref t), (.int (o + p2)), (.ref t)])) _
    refine X3.arraylength hx (by rw [e3]; exact Ar4.1) (State.isArrayOf_alike hZ.alike Ar4.2.1) (g := (mkF m 14 #[.val (.ref a1), .val (.int p2)] [(.ref t), (.int (o + p2)), (.ref t)])) rfl rfl (hb hby d8_14) _ ?_
    rw [len_of S4 M4]
    show Steps p.tables e below (T3.setTop (mkF m 15 #[.val (.ref a1), .val (.int p2)] [(.int n), (.int (o + p2)), (.ref t)])) _
    refine iremM X3 hx rfl (hb hby d8_15) rfl (own_nz hrb.1) ?_
    show Steps p.tables e below (T3.setTop (mkF m 16 #[.val (.ref a1), .val (.int p2)] [(.int ((o + p2) % n)), (.ref t)])) _
    refine X3.laload hx (j := ((o + p2) % n)) (v := (.long x5)) (by rw [e3]; exact Ar5.1) (State.isArrayOf_alike hZ.alike Ar5.2.1) Ar5.2.2 hin5 hat5 (g := (mkF m 16 #[.val (.ref a1), .val (.int p2)] [(.int ((o + p2) % n)), (.ref t)])) rfl rfl (hb hby d8_16) _ ?_
    exact ktx
  obtain ⟨fs, hr, hrun, hended, hW, hsame⟩ := X3.leave (v := some (.long x5)) (fun h => by rw [Bd.returns] at h; cases h)
  refine ⟨_, _, go6 _ ?_, hrun, hended, _, _, rfl, ?_, ⟨_, rfl⟩, hW, hsame.mono (by decide) (by decide)⟩
  · exact retOut X3 hx Bd.returns rfl (Or.inr (Or.inl ⟨rfl, rfl, _, rfl⟩)) (hb hby d8_17) hr
  · show Q8 Z a1 p2 t n o k h0 n0 _ T3.heap _
    rw [e3]
    exact ⟨_, rfl, N0, rfl⟩
theorem d5_0 : decode prog_44_method_2_code 0 = .ok (.aload_n 0, 1) := by decide +kernel
theorem d5_1 : decode prog_44_method_2_code 1 = .ok (.getfield 7, 3) := by decide +kernel
theorem d5_4 : decode prog_44_method_2_code 4 = .ok (.aload_n 0, 1) := by decide +kernel
theorem d5_5 : decode prog_44_method_2_code 5 = .ok (.getfield 13, 3) := by decide +kernel
theorem d5_8 : decode prog_44_method_2_code 8 = .ok (.aload_n 0, 1) := by decide +kernel
theorem d5_9 : decode prog_44_method_2_code 9 = .ok (.getfield 17, 3) := by decide +kernel
theorem d5_12 : decode prog_44_method_2_code 12 = .ok (.iadd, 1) := by decide +kernel
theorem d5_13 : decode prog_44_method_2_code 13 = .ok (.aload_n 0, 1) := by decide +kernel
theorem d5_14 : decode prog_44_method_2_code 14 = .ok (.getfield 7, 3) := by decide +kernel
theorem d5_17 : decode prog_44_method_2_code 17 = .ok (.arraylength, 1) := by decide +kernel
theorem d5_18 : decode prog_44_method_2_code 18 = .ok (.irem, 1) := by decide +kernel
theorem d5_19 : decode prog_44_method_2_code 19 = .ok (.iload_n 1, 1) := by decide +kernel
theorem d5_20 : decode prog_44_method_2_code 20 = .ok (.iload_n 2, 1) := by decide +kernel
theorem own_pd1 : parseMethodDescriptor "(II)J" = some ⟨[.int, .int], some .long⟩ := by decide +kernel
theorem d5_21 : decode prog_44_method_2_code 21 = .ok (.invokestatic 20, 3) := by decide +kernel
theorem d5_24 : decode prog_44_method_2_code 24 = .ok (.lastore, 1) := by decide +kernel
theorem d5_25 : decode prog_44_method_2_code 25 = .ok (.aload_n 0, 1) := by decide +kernel
theorem d5_26 : decode prog_44_method_2_code 26 = .ok (.getfield 17, 3) := by decide +kernel
theorem d5_29 : decode prog_44_method_2_code 29 = .ok (.aload_n 0, 1) := by decide +kernel
theorem d5_30 : decode prog_44_method_2_code 30 = .ok (.getfield 7, 3) := by decide +kernel
theorem d5_33 : decode prog_44_method_2_code 33 = .ok (.arraylength, 1) := by decide +kernel
theorem d5_34 : decode prog_44_method_2_code 34 = .ok (.if_icmp .ge 16, 3) := by decide +kernel
theorem d5_37 : decode prog_44_method_2_code 37 = .ok (.aload_n 0, 1) := by decide +kernel
theorem d5_38 : decode prog_44_method_2_code 38 = .ok (.dup, 1) := by decide +kernel
theorem d5_39 : decode prog_44_method_2_code 39 = .ok (.getfield 17, 3) := by decide +kernel
theorem d5_42 : decode prog_44_method_2_code 42 = .ok (.iconst 1, 1) := by decide +kernel
theorem d5_43 : decode prog_44_method_2_code 43 = .ok (.iadd, 1) := by decide +kernel
theorem d5_44 : decode prog_44_method_2_code 44 = .ok (.putfield 17, 3) := by decide +kernel
theorem d5_47 : decode prog_44_method_2_code 47 = .ok (.goto 19, 3) := by decide +kernel
theorem d5_66 : decode prog_44_method_2_code 66 = .ok (.return_, 1) := by decide +kernel
theorem d5_50 : decode prog_44_method_2_code 50 = .ok (.aload_n 0, 1) := by decide +kernel
theorem d5_51 : decode prog_44_method_2_code 51 = .ok (.aload_n 0, 1) := by decide +kernel
theorem d5_52 : decode prog_44_method_2_code 52 = .ok (.getfield 13, 3) := by decide +kernel
theorem d5_55 : decode prog_44_method_2_code 55 = .ok (.iconst 1, 1) := by decide +kernel
theorem d5_56 : decode prog_44_method_2_code 56 = .ok (.iadd, 1) := by decide +kernel
theorem d5_57 : decode prog_44_method_2_code 57 = .ok (.aload_n 0, 1) := by decide +kernel
theorem d5_58 : decode prog_44_method_2_code 58 = .ok (.getfield 7, 3) := by decide +kernel
theorem d5_61 : decode prog_44_method_2_code 61 = .ok (.arraylength, 1) := by decide +kernel
theorem d5_62 : decode prog_44_method_2_code 62 = .ok (.irem, 1) := by decide +kernel
theorem d5_63 : decode prog_44_method_2_code 63 = .ok (.putfield 13, 3) := by decide +kernel
theorem ef_5 (m : MethodId) (x0 : Addr) (x1 : Int32) (x2 : Int32) : entryFrame m #[(.ref x0), (.int x1), (.int x2)] 3 = mkF m 0 #[.val (.ref x0), .val (.int x1), .val (.int x2)] [] := by first | (simp [entryFrame, mkF, argsToLocals, Value.category]; done) | rfl
def Q5 (Z : State) (a1 : Addr) (p2 : Int32) (p3 : Int32) (t : Addr) (n : Int32) (o : Int32) (k : Int32) (h0 : Heap) (n0 : Nat) (v : Option Value) (h : Heap) (L : List Loc) : Prop := v = none ∧ Fr n0 L ∧ Keep h0 h [a1, t] ∧ Exa Z h a1 "com/example/structweave/structweave/wddx/PlaceRing" ∧ Fld Z h a1 "com/example/structweave/structweave/wddx/PlaceRing" "places" "[J" (.ref t) ∧ own_la Z h t n ∧ ∃ o2 k2 : Int32, Fld Z h a1 "com/example/structweave/structweave/wddx/PlaceRing" "oldest" "I" (.int o2) ∧ Fld Z h a1 "com/example/structweave/structweave/wddx/PlaceRing" "count" "I" (.int k2) ∧ own_rb n o2 k2 ∧ 0 < k2.toInt
set_option maxRecDepth 65536 in
set_option maxHeartbeats 40000000 in
theorem rm5 (l : Launch) (Z : State) (a0 : Array Value) (hw : ∀ d ∈ tables_1, d.before a0 Z = true) (ws : List Jvm.Cond) (a1 : Addr) (p2 : Int32) (p3 : Int32) (t : Addr) (n : Int32) (o : Int32) (k : Int32) (h0 : Heap) (n0 : Nat) (Z0 : n0 ≤ h0.size) (E_a1 : Exa Z h0 a1 "com/example/structweave/structweave/wddx/PlaceRing") (g_a1 : n0 ≤ a1) (g_t : n0 ≤ t) (ne_t : a1 ≠ t) (F_places : Fld Z h0 a1 "com/example/structweave/structweave/wddx/PlaceRing" "places" "[J" (.ref t)) (F_oldest : Fld Z h0 a1 "com/example/structweave/structweave/wddx/PlaceRing" "oldest" "I" (.int o)) (F_count : Fld Z h0 a1 "com/example/structweave/structweave/wddx/PlaceRing" "count" "I" (.int k)) (V_t : own_la Z h0 t n) (hrb : own_rb n o k) :
    MetFree l (⟨"com/example/structweave/structweave/wddx/PlaceRing", "note", "(II)V"⟩ : MethodName) (head1 (Jvm.Cond.code (⟨"com/example/structweave/structweave/wddx/PlaceRing", "note", "(II)V"⟩ : MethodName) prog_44_method_2_code 3 none :: ws) ({ frames := 2, cells := 0, slots := 0, locals := 29 } : Room)) (fun aax UU => aax = #[(.ref a1), (.int p2), (.int p3)] ∧ Z.Warmed39 UU.vm ∧ UU.heap = h0) (fun _ _ _ _ _ => True) (fun _ UU oux UU' => ∃ rvx Lrx, oux = .returned rvx ∧ Q5 Z a1 p2 p3 t n o k h0 n0 rvx UU'.heap Lrx ∧ FrameEnd UU oux UU' Lrx ({ frames := 2, cells := 0, slots := 0, locals := 29 } : Room).cells ({ frames := 2, cells := 0, slots := 0, locals := 29 } : Room).slots) := by
  refine MetFree.of_bodySF (plainFor_of_name own_pn_com_example_structweave_structweave_wddx_PlaceRing) hisR ?_
  intro p e s m args below meth c s₁ Bd hml0 hP hK
  obtain ⟨rfl, hZ, hh⟩ := hP
  have hx := Bd.exec
  have hby := Bd.bytes
  have hml : c.maxLocals = 3 := hml0
  have hown : s.vm.findClass "com/example/structweave/structweave/wddx/PlaceRing" = some m.cls := findClass_of_methodNamed Bd.named
  have hnm := (name_of_methodNamed Bd.named Bd.method).1
  have X0 : Stand p l e ({ frames := 2, cells := 0, slots := 0, locals := 29 } : Room) s m #[(.ref a1), (.int p2), (.int p3)] below meth c s₁ [] 0 0 := Stand.of_body Bd
  have e0 : s₁.heap = h0 := by rw [← hh, Bd.state]; rfl
  have N0 := Fr.nil n0
  have p0 : own_go p e below (s₁.setTop (entryFrame m #[(.ref a1), (.int p2), (.int p3)] 3)) (s₁.setTop (mkF m 0 #[.val (.ref a1), .val (.int p2), .val (.int p3)] [])) := fun t k => castTop (ef_5 m a1 p2 p3) k
  obtain ⟨T1, X1, e1, st1⟩ := getF X0 hx hZ hown (host := "") (Or.inl (hw _ (List.mem_of_getElem? (i := 10) rfl))) Via.refl e0 F_places (g := (mkF m 1 #[.val (.ref a1), .val (.int p2), .val (.int p3)] [(.ref a1)])) rfl rfl (hb hby d5_1)
  obtain ⟨T2, X2, e2, st2⟩ := getF X1 hx hZ hown (host := "") (Or.inl (hw _ (List.mem_of_getElem? (i := 24) rfl))) Via.refl e1 F_oldest (g := (mkF m 5 #[.val (.ref a1), .val (.int p2), .val (.int p3)] [(.ref a1), (.ref t)])) rfl rfl (hb hby d5_5)
  obtain ⟨T3, X3, e3, st3⟩ := getF X2 hx hZ hown (host := "") (Or.inl (hw _ (List.mem_of_getElem? (i := 17) rfl))) Via.refl e2 F_count (g := (mkF m 9 #[.val (.ref a1), .val (.int p2), .val (.int p3)] [(.ref a1), (.int o), (.ref t)])) rfl rfl (hb hby d5_9)
  obtain ⟨T4, X4, e4, st4⟩ := getF X3 hx hZ hown (host := "") (Or.inl (hw _ (List.mem_of_getElem? (i := 10) rfl))) Via.refl e3 F_places (g := (mkF m 14 #[.val (.ref a1), .val (.int p2), .val (.int p3)] [(.ref a1), (.int (o + k)), (.ref t)])) rfl rfl (hb hby d5_14)
  obtain ⟨cl5, Ar5, S5, M5, -⟩ := id V_t
  obtain ⟨_, _, ⟨T6, L6, k6, n6⟩, -, X6, ⟨Lc6, hQ6, l6, y6, z6⟩, st6⟩ := Jvm.LawKit.callS X4 hx (y := (⟨"com/example/structweave/structweave/wddx/PlaceRing", "pack", "(II)J"⟩ : MethodName)) hown (mvT hZ (hw _ (List.mem_of_getElem? (i := 32) rfl))) (mvT hZ (hw _ (List.mem_of_getElem? (i := 33) rfl))) (mvT hZ (hw _ (List.mem_of_getElem? (i := 2) rfl))) (mvT hZ (hw _ (List.mem_of_getElem? (i := 34) rfl))) (by decide) (backOf (W := 2) (rm6 l Z a0 hw [] p2 p3  h0 n0 Z0 ) hZ (hw _ (List.mem_of_getElem? (i := 34) rfl)) (hw _ (List.mem_of_getElem? (i := 2) rfl)) (by decide) (by decide)) (g := (mkF m 21 #[.val (.ref a1), .val (.int p2), .val (.int p3)] [(.int p3), (.int p2), (.int ((o + k) % n)), (.ref t)])) rfl (by rw [hml]; rfl) (argsL := [(.int p2), (.int p3)]) (rest := [(.int ((o + k) % n)), (.ref t)]) (lenOf own_pd1 rfl) rfl (by show 2 * 0 + _ ≤ _; exact Nat.le_of_eq rfl) (hb hby d5_21) (fun _ _ => ⟨rfl, e4, (by decide : 0 + 0 ≤ _), (by decide : 0 + 0 ≤ _)⟩)
  dsimp only [Pt.U, Pt.locs, Pt.cells, Pt.slots] at X6 l6 y6 z6 st6 hQ6
  subst l6 y6 z6
  obtain ⟨x6, rfl, Nq6, e6⟩ := hQ6
  have N6 := Fr.app N0 Nq6
  have go7 : own_go p e below (s₁.setTop (entryFrame m #[(.ref a1), (.int p2), (.int p3)] 3)) (T6.setTop (mkF m 24 #[.val (.ref a1), .val (.int p2), .val (.int p3)] [(.long x6), (.int ((o + k) % n)), (.ref t)])) := by
    intro ttx ktx
    refine p0 ttx ?_
    show Steps p.tables e below (s₁.setTop (mkF m 0 #[.val (.ref a1), .val (.int p2), .val (.int p3)] [])) _
    refine XS.aloadN X0.here hx rfl (hb hby d5_0) rfl rfl ?_
    show Steps p.tables e below (s₁.setTop (mkF m 1 #[.val (.ref a1), .val (.int p2), .val (.int p3)] [(.ref a1)])) _
    refine st1 _ ?_
    show Steps p.tables e below (T1.setTop (mkF m 4 #[.val (.ref a1), .val (.int p2), .val (.int p3)] [(.ref t)])) _
    refine XS.aloadN X1.here hx rfl (hb hby d5_4) rfl rfl ?_
    show Steps p.tables e below (T1.setTop (mkF m 5 #[.val (.ref a1), .val (.int p2), .val (.int p3)] [(.ref a1), (.ref t)])) _
    refine st2 _ ?_
    show Steps p.tables e below (T2.setTop (mkF m 8 #[.val (.ref a1), .val (.int p2), .val (.int p3)] [(.int o), (.ref t)])) _
    refine XS.aloadN X2.here hx rfl (hb hby d5_8) rfl rfl ?_
    show Steps p.tables e below (T2.setTop (mkF m 9 #[.val (.ref a1), .val (.int p2), .val (.int p3)] [(.ref a1), (.int o), (.ref t)])) _
    refine st3 _ ?_
    show Steps p.tables e below (T3.setTop (mkF m 12 #[.val (.ref a1), .val (.int p2), .val (.int p3)] [(.int k), (.int o), (.ref t)])) _
    refine XS.iadd X3.here hx rfl (hb hby d5_12) rfl ?_
    show Steps p.tables e below (T3.setTop (mkF m 13 #[.val (.ref a1), .val (.int p2), .val (.int p3)] [(.int (o + k)), (.ref t)])) _
    refine XS.aloadN X3.here hx rfl (hb hby d5_13) rfl rfl ?_
    show Steps p.tables e below (T3.setTop (mkF m 14 #[.val (.ref a1), .val (.int p2), .val (.int p3)] [(.ref a1), (.int (o + k)), (.ref t)])) _
    refine st4 _ ?_
    show Steps p.tables e below (T4.setTop (mkF m 17 #[.val (.ref a1), .val (.int p2), .val (.int p3)] [(.ref t), (.int (o + k)), (.ref t)])) _
    refine X4.arraylength hx (by rw [e4]; exact Ar5.1) (State.isArrayOf_alike hZ.alike Ar5.2.1) (g := (mkF m 17 #[.val (.ref a1), .val (.int p2), .val (.int p3)] [(.ref t), (.int (o + k)), (.ref t)])) rfl rfl (hb hby d5_17) _ ?_
    rw [len_of S5 M5]
    show Steps p.tables e below (T4.setTop (mkF m 18 #[.val (.ref a1), .val (.int p2), .val (.int p3)] [(.int n), (.int (o + k)), (.ref t)])) _
    refine iremM X4 hx rfl (hb hby d5_18) rfl (own_nz hrb.1) ?_
    show Steps p.tables e below (T4.setTop (mkF m 19 #[.val (.ref a1), .val (.int p2), .val (.int p3)] [(.int ((o + k) % n)), (.ref t)])) _
    refine XS.iloadN X4.here hx rfl (hb hby d5_19) rfl ?_
    show Steps p.tables e below (T4.setTop (mkF m 20 #[.val (.ref a1), .val (.int p2), .val (.int p3)] [(.int p2), (.int ((o + k) % n)), (.ref t)])) _
    refine XS.iloadN X4.here hx rfl (hb hby d5_20) rfl ?_
    show Steps p.tables e below (T4.setTop (mkF m 21 #[.val (.ref a1), .val (.int p2), .val (.int p3)] [(.int p3), (.int p2), (.int ((o + k) % n)), (.ref t)])) _
    refine st6 _ ?_
    exact ktx
  obtain ⟨cl8, Ar8, S8, M8, G8⟩ := id V_t
  have hin8 : ¬ (((o + k) % n) < 0 ∨ cl8.slots.size ≤ (((o + k) % n)).toNatClampNeg) := inb_of S8 (⟨(own_ix n o k hrb.1 hrb.2.1 hrb.2.2.1 hrb.2.2.2.1 hrb.2.2.2.2.1 (Int.le_trans hrb.2.2.2.2.2 hrb.2.1)).1, (own_ix n o k hrb.1 hrb.2.1 hrb.2.2.1 hrb.2.2.2.1 hrb.2.2.2.2.1 (Int.le_trans hrb.2.2.2.2.2 hrb.2.1)).2.1⟩)
  obtain ⟨T9, h9, X9, e9, W9, st9⟩ := stJ X6 hx hZ e6 Ar8 (j := ((o + k) % n)) hin8 (g := (mkF m 24 #[.val (.ref a1), .val (.int p2), .val (.int p3)] [(.long x6), (.int ((o + k) % n)), (.ref t)])) rfl rfl (hb hby d5_24)
  have Z9 : n0 ≤ h9.size := Nat.le_trans Z0 (Nat.le_of_eq W9.size.symm)
  have K9 : Keep h0 h9 [a1, t] := (Keep.refl h0 [a1, t]).wr W9 (Or.inl (List.mem_of_getElem? (i := 1) rfl))
  have N9 := Fr.snoc X9 N6 g_t
  have V9 := own_la.st V_t W9
  have f10 := (F_count.other W9 (Or.inl ne_t))
  obtain ⟨T11, X11, e11, st11⟩ := getF X9 hx hZ hown (host := "") (Or.inl (hw _ (List.mem_of_getElem? (i := 17) rfl))) Via.refl e9 f10 (g := (mkF m 26 #[.val (.ref a1), .val (.int p2), .val (.int p3)] [(.ref a1)])) rfl rfl (hb hby d5_26)
  have f12 := (F_places.other W9 (Or.inl ne_t))
  obtain ⟨T13, X13, e13, st13⟩ := getF X11 hx hZ hown (host := "") (Or.inl (hw _ (List.mem_of_getElem? (i := 10) rfl))) Via.refl e11 f12 (g := (mkF m 30 #[.val (.ref a1), .val (.int p2), .val (.int p3)] [(.ref a1), (.int k)])) rfl rfl (hb hby d5_30)
  obtain ⟨cl14, Ar14, S14, M14, -⟩ := id V9
  have go15 : own_go p e below (s₁.setTop (entryFrame m #[(.ref a1), (.int p2), (.int p3)] 3)) (T13.setTop (mkF m 34 #[.val (.ref a1), .val (.int p2), .val (.int p3)] [(.int n), (.int k)])) := by
    intro ttx ktx
    refine go7 ttx ?_
    show Steps p.tables e below (T6.setTop (mkF m 24 #[.val (.ref a1), .val (.int p2), .val (.int p3)] [(.long x6), (.int ((o + k) % n)), (.ref t)])) _
    refine st9 _ ?_
    show Steps p.tables e below (T9.setTop (mkF m 25 #[.val (.ref a1), .val (.int p2), .val (.int p3)] [])) _
    refine XS.aloadN X9.here hx rfl (hb hby d5_25) rfl rfl ?_
    show Steps p.tables e below (T9.setTop (mkF m 26 #[.val (.ref a1), .val (.int p2), .val (.int p3)] [(.ref a1)])) _
    refine st11 _ ?_
    show Steps p.tables e below (T11.setTop (mkF m 29 #[.val (.ref a1), .val (.int p2), .val (.int p3)] [(.int k)])) _
    refine XS.aloadN X11.here hx rfl (hb hby d5_29) rfl rfl ?_
    show Steps p.tables e below (T11.setTop (mkF m 30 #[.val (.ref a1), .val (.int p2), .val (.int p3)] [(.ref a1), (.int k)])) _
    refine st13 _ ?_
    show Steps p.tables e below (T13.setTop (mkF m 33 #[.val (.ref a1), .val (.int p2), .val (.int p3)] [(.ref t), (.int k)])) _
    refine X13.arraylength hx (by rw [e13]; exact Ar14.1) (State.isArrayOf_alike hZ.alike Ar14.2.1) (g := (mkF m 33 #[.val (.ref a1), .val (.int p2), .val (.int p3)] [(.ref t), (.int k)])) rfl rfl (hb hby d5_33) _ ?_
    rw [len_of S14 M14]
    exact ktx
  by_cases hc16_34 : k < n
  · obtain ⟨T17, X17, e17, st17⟩ := getF X13 hx hZ hown (host := "") (Or.inl (hw _ (List.mem_of_getElem? (i := 17) rfl))) Via.refl e13 f10 (g := (mkF m 39 #[.val (.ref a1), .val (.int p2), .val (.int p3)] [(.ref a1), (.ref a1)])) rfl rfl (hb hby d5_39)
    have f18 := (E_a1.wr W9)
    obtain ⟨T19, h19, X19, e19, W19, st19⟩ := putF X17 hx hZ hown (host := "") (Or.inl (hw _ (List.mem_of_getElem? (i := 17) rfl))) Via.refl e17 f10 f18 (Or.inl (hw _ (List.mem_of_getElem? (i := 18) rfl))) (hw _ (List.mem_of_getElem? (i := 1) rfl)) (ty := .int) (by decide) rfl rfl (g := (mkF m 44 #[.val (.ref a1), .val (.int p2), .val (.int p3)] [(.int (k + (1 : Int32))), (.ref a1)])) rfl rfl (hb hby d5_44)
    have Z19 : n0 ≤ h19.size := Nat.le_trans Z9 (Nat.le_of_eq W19.size.symm)
    have K19 : Keep h0 h19 [a1, t] := K9.wr W19 (Or.inl (List.mem_of_getElem? (i := 0) rfl))
    have N19 := Fr.snoc X19 N9 g_a1
    have Fw19 := f10.same W19
    have go20 : own_go p e below (s₁.setTop (entryFrame m #[(.ref a1), (.int p2), (.int p3)] 3)) (T19.setTop (mkF m 66 #[.val (.ref a1), .val (.int p2), .val (.int p3)] [])) := by
      intro ttx ktx
      refine go15 ttx ?_
      show Steps p.tables e below (T13.setTop (mkF m 34 #[.val (.ref a1), .val (.int p2), .val (.int p3)] [(.int n), (.int k)])) _
      refine XS.icmpNo X13.here hx rfl (hb hby d5_34) rfl (tlt hc16_34).2.1 ?_
      show Steps p.tables e below (T13.setTop (mkF m 37 #[.val (.ref a1), .val (.int p2), .val (.int p3)] [])) _
      refine XS.aloadN X13.here hx rfl (hb hby d5_37) rfl rfl ?_
      show Steps p.tables e below (T13.setTop (mkF m 38 #[.val (.ref a1), .val (.int p2), .val (.int p3)] [(.ref a1)])) _
      refine XS.dup X13.here hx rfl (hb hby d5_38) rfl rfl ?_
      show Steps p.tables e below (T13.setTop (mkF m 39 #[.val (.ref a1), .val (.int p2), .val (.int p3)] [(.ref a1), (.ref a1)])) _
      refine st17 _ ?_
      show Steps p.tables e below (T17.setTop (mkF m 42 #[.val (.ref a1), .val (.int p2), .val (.int p3)] [(.int k), (.ref a1)])) _
      refine XS.iconst X17.here hx rfl (hb hby d5_42) ?_
      show Steps p.tables e below (T17.setTop (mkF m 43 #[.val (.ref a1), .val (.int p2), .val (.int p3)] [(.int (1 : Int32)), (.int k), (.ref a1)])) _
      refine XS.iadd X17.here hx rfl (hb hby d5_43) rfl ?_
      show Steps p.tables e below (T17.setTop (mkF m 44 #[.val (.ref a1), .val (.int p2), .val (.int p3)] [(.int (k + (1 : Int32))), (.ref a1)])) _
      refine st19 _ ?_
      show Steps p.tables e below (T19.setTop (mkF m 47 #[.val (.ref a1), .val (.int p2), .val (.int p3)] [])) _
      refine XS.goto X19.here hx rfl (pc0 := 47) (pc' := 66) rfl (hb hby d5_47) (by decide) (by decide) ?_
      exact ktx
    obtain ⟨fs, hr, hrun, hended, hW, hsame⟩ := X19.leave (v := none) (fun _ => rfl)
    refine ⟨_, _, go20 _ ?_, hrun, hended, _, _, rfl, ?_, ⟨_, rfl⟩, hW, hsame.mono (by decide) (by decide)⟩
    · exact X19.returnOut hx Bd.returns (hb hby d5_66) hr
    · show Q5 Z a1 p2 p3 t n o k h0 n0 _ T19.heap _
      rw [e19]
      have f21 := (f18.wr W19)
      have f22 := (f12.other W19 (Or.inr (slot_ne (Or.inl (hw _ (List.mem_of_getElem? (i := 11) rfl))) (Or.inl (hw _ (List.mem_of_getElem? (i := 18) rfl))) (by decide) (t := (.array .long)) (t' := .int) (by decide) (by decide))))
      have f23 := (V9.other W19 (Ne.symm ne_t))
      have f24 := ((F_oldest.other W9 (Or.inl ne_t)).other W19 (Or.inr (slot_ne (Or.inl (hw _ (List.mem_of_getElem? (i := 25) rfl))) (Or.inl (hw _ (List.mem_of_getElem? (i := 18) rfl))) (by decide) (t := .int) (t' := .int) (by decide) (by decide))))
      exact ⟨rfl, N19, K19, f21, f22, f23, _, _, f24, Fw19, (own_up hrb hc16_34).1, (own_up hrb hc16_34).2⟩
  · have f25 := (F_oldest.other W9 (Or.inl ne_t))
    obtain ⟨T26, X26, e26, st26⟩ := getF X13 hx hZ hown (host := "") (Or.inl (hw _ (List.mem_of_getElem? (i := 24) rfl))) Via.refl e13 f25 (g := (mkF m 52 #[.val (.ref a1), .val (.int p2), .val (.int p3)] [(.ref a1), (.ref a1)])) rfl rfl (hb hby d5_52)
    obtain ⟨T27, X27, e27, st27⟩ := getF X26 hx hZ hown (host := "") (Or.inl (hw _ (List.mem_of_getElem? (i := 10) rfl))) Via.refl e26 f12 (g := (mkF m 58 #[.val (.ref a1), .val (.int p2), .val (.int p3)] [(.ref a1), (.int (o + (1 : Int32))), (.ref a1)])) rfl rfl (hb hby d5_58)
    obtain ⟨cl28, Ar28, S28, M28, -⟩ := id V9
    have f29 := (E_a1.wr W9)
    obtain ⟨T30, h30, X30, e30, W30, st30⟩ := putF X27 hx hZ hown (host := "") (Or.inl (hw _ (List.mem_of_getElem? (i := 24) rfl))) Via.refl e27 f25 f29 (Or.inl (hw _ (List.mem_of_getElem? (i := 25) rfl))) (hw _ (List.mem_of_getElem? (i := 1) rfl)) (ty := .int) (by decide) rfl rfl (g := (mkF m 63 #[.val (.ref a1), .val (.int p2), .val (.int p3)] [(.int ((o + (1 : Int32)) % n)), (.ref a1)])) rfl rfl (hb hby d5_63)
    have Z30 : n0 ≤ h30.size := Nat.le_trans Z9 (Nat.le_of_eq W30.size.symm)
    have K30 : Keep h0 h30 [a1, t] := K9.wr W30 (Or.inl (List.mem_of_getElem? (i := 0) rfl))
    have N30 := Fr.snoc X30 N9 g_a1
    have Fw30 := f25.same W30
    have go31 : own_go p e below (s₁.setTop (entryFrame m #[(.ref a1), (.int p2), (.int p3)] 3)) (T30.setTop (mkF m 66 #[.val (.ref a1), .val (.int p2), .val (.int p3)] [])) := by
      intro ttx ktx
      refine go15 ttx ?_
      show Steps p.tables e below (T13.setTop (mkF m 34 #[.val (.ref a1), .val (.int p2), .val (.int p3)] [(.int n), (.int k)])) _
      refine XS.icmpYes X13.here hx rfl (pc0 := 34) (pc' := 50) rfl (hb hby d5_34) rfl (flt hc16_34).2.1 (by decide) (by decide) ?_
      show Steps p.tables e below (T13.setTop (mkF m 50 #[.val (.ref a1), .val (.int p2), .val (.int p3)] [])) _
      refine XS.aloadN X13.here hx rfl (hb hby d5_50) rfl rfl ?_
      show Steps p.tables e below (T13.setTop (mkF m 51 #[.val (.ref a1), .val (.int p2), .val (.int p3)] [(.ref a1)])) _
      refine XS.aloadN X13.here hx rfl (hb hby d5_51) rfl rfl ?_
      show Steps p.tables e below (T13.setTop (mkF m 52 #[.val (.ref a1), .val (.int p2), .val (.int p3)] [(.ref a1), (.ref a1)])) _
      refine st26 _ ?_
      show Steps p.tables e below (T26.setTop (mkF m 55 #[.val (.ref a1), .val (.int p2), .val (.int p3)] [(.int o), (.ref a1)])) _
      refine XS.iconst X26.here hx rfl (hb hby d5_55) ?_
      show Steps p.tables e below (T26.setTop (mkF m 56 #[.val (.ref a1), .val (.int p2), .val (.int p3)] [(.int (1 : Int32)), (.int o), (.ref a1)])) _
      refine XS.iadd X26.here hx rfl (hb hby d5_56) rfl ?_
      show Steps p.tables e below (T26.setTop (mkF m 57 #[.val (.ref a1), .val (.int p2), .val (.int p3)] [(.int (o + (1 : Int32))), (.ref a1)])) _
      refine XS.aloadN X26.here hx rfl (hb hby d5_57) rfl rfl ?_
      show Steps p.tables e below (T26.setTop (mkF m 58 #[.val (.ref a1), .val (.int p2), .val (.int p3)] [(.ref a1), (.int (o + (1 : Int32))), (.ref a1)])) _
      refine st27 _ ?_
      show Steps p.tables e below (T27.setTop (mkF m 61 #[.val (.ref a1), .val (.int p2), .val (.int p3)] [(.ref t), (.int (o + (1 : Int32))), (.ref a1)])) _
      refine X27.arraylength hx (by rw [e27]; exact Ar28.1) (State.isArrayOf_alike hZ.alike Ar28.2.1) (g := (mkF m 61 #[.val (.ref a1), .val (.int p2), .val (.int p3)] [(.ref t), (.int (o + (1 : Int32))), (.ref a1)])) rfl rfl (hb hby d5_61) _ ?_
      rw [len_of S28 M28]
      show Steps p.tables e below (T27.setTop (mkF m 62 #[.val (.ref a1), .val (.int p2), .val (.int p3)] [(.int n), (.int (o + (1 : Int32))), (.ref a1)])) _
      refine iremM X27 hx rfl (hb hby d5_62) rfl (own_nz hrb.1) ?_
      show Steps p.tables e below (T27.setTop (mkF m 63 #[.val (.ref a1), .val (.int p2), .val (.int p3)] [(.int ((o + (1 : Int32)) % n)), (.ref a1)])) _
      refine st30 _ ?_
      exact ktx
    obtain ⟨fs, hr, hrun, hended, hW, hsame⟩ := X30.leave (v := none) (fun _ => rfl)
    refine ⟨_, _, go31 _ ?_, hrun, hended, _, _, rfl, ?_, ⟨_, rfl⟩, hW, hsame.mono (by decide) (by decide)⟩
    · exact X30.returnOut hx Bd.returns (hb hby d5_66) hr
    · show Q5 Z a1 p2 p3 t n o k h0 n0 _ T30.heap _
      rw [e30]
      have f32 := (f29.wr W30)
      have f33 := (f12.other W30 (Or.inr (slot_ne (Or.inl (hw _ (List.mem_of_getElem? (i := 11) rfl))) (Or.inl (hw _ (List.mem_of_getElem? (i := 25) rfl))) (by decide) (t := (.array .long)) (t' := .int) (by decide) (by decide))))
      have f34 := (V9.other W30 (Ne.symm ne_t))
      have f35 := (f10.other W30 (Or.inr (slot_ne (Or.inl (hw _ (List.mem_of_getElem? (i := 18) rfl))) (Or.inl (hw _ (List.mem_of_getElem? (i := 25) rfl))) (by decide) (t := .int) (t' := .int) (by decide) (by decide))))
      exact ⟨rfl, N30, K30, f32, f33, f34, _, _, Fw30, f35, (own_full hrb hc16_34).1, (own_full hrb hc16_34).2⟩
theorem d4_16 : decode prog_44_method_3_code 16 = .ok (.iload_n 3, 1) := by decide +kernel
theorem d4_17 : decode prog_44_method_3_code 17 = .ok (.aload_n 0, 1) := by decide +kernel
theorem d4_18 : decode prog_44_method_3_code 18 = .ok (.getfield 17, 3) := by decide +kernel
theorem d4_21 : decode prog_44_method_3_code 21 = .ok (.if_icmp .ge 17, 3) := by decide +kernel
theorem d4_24 : decode prog_44_method_3_code 24 = .ok (.aload_n 2, 1) := by decide +kernel
theorem d4_25 : decode prog_44_method_3_code 25 = .ok (.iload_n 3, 1) := by decide +kernel
theorem d4_26 : decode prog_44_method_3_code 26 = .ok (.aload_n 0, 1) := by decide +kernel
theorem d4_27 : decode prog_44_method_3_code 27 = .ok (.iload_n 3, 1) := by decide +kernel
theorem d4_28 : decode prog_44_method_3_code 28 = .ok (.invokevirtual 24, 3) := by decide +kernel
theorem d4_31 : decode prog_44_method_3_code 31 = .ok (.lastore, 1) := by decide +kernel
theorem d4_32 : decode prog_44_method_3_code 32 = .ok (.iinc 3 1, 3) := by decide +kernel
theorem d4_35 : decode prog_44_method_3_code 35 = .ok (.goto (-19), 3) := by decide +kernel
set_option maxRecDepth 65536 in
set_option maxHeartbeats 40000000 in
theorem own_turnM {p : Program} {l : Launch} {e : Env} {s : State} {m : MethodId} {args : Array Value} {below : List Frame} {meth : Method} {c : Code} {T0 : State} {locs : List Loc} {Z : State} {a0 : Array Value} {h0 : Heap} {n0 : Nat} (r : Addr) (z : Int32) (t2 : Addr) (i : Int32) (t : Addr) (n : Int32) (o : Int32) (k : Int32)
    (X0 : Stand p l e ({ frames := 1, cells := 1, slots := 7, locals := 15 } : Room) s m args below meth c T0 locs 1 7) (hx : p.tables.exec = Jvm.exec) (hZ : Z.Warmed39 s.vm) (hw : ∀ d ∈ tables_1, d.before a0 Z = true) (hby : c.code = prog_44_method_3_code) (hml : c.maxLocals = 4) (hown : s.vm.findClass "com/example/structweave/structweave/wddx/PlaceRing" = some m.cls) (e0 : T0.heap = h0) (Z0 : n0 ≤ h0.size) (N0 : Fr n0 locs) (E_r : Exa Z h0 r "com/example/structweave/structweave/wddx/PlaceRing") (F_places : Fld Z h0 r "com/example/structweave/structweave/wddx/PlaceRing" "places" "[J" (.ref t)) (F_oldest : Fld Z h0 r "com/example/structweave/structweave/wddx/PlaceRing" "oldest" "I" (.int o)) (F_count : Fld Z h0 r "com/example/structweave/structweave/wddx/PlaceRing" "count" "I" (.int k)) (V_t : own_la Z h0 t n) (V_t2 : own_la Z h0 t2 z) (hrb : own_rb n o k) (g_t2 : n0 ≤ t2) (ne1 : r ≠ t2) (ne2 : t ≠ t2) (hp : 0 ≤ i.toInt ∧ i.toInt ≤ 7) (hc : i < k) (hz : ¬ i < 0 ∧ i < z) :
    ∃ (T' : State) (h' : Heap) (locs' : List Loc), Stand p l e ({ frames := 1, cells := 1, slots := 7, locals := 15 } : Room) s m args below meth c T' locs' 1 7 ∧ T'.heap = h' ∧ Fr n0 locs' ∧ Keep h0 h' [t2] ∧ own_la Z h' t2 z ∧ own_go p e below (T0.setTop (mkF m 16 #[.val (.ref r), .val (.int z), .val (.ref t2), .val (.int i)] [])) (T'.setTop (mkF m 16 #[.val (.ref r), .val (.int z), .val (.ref t2), .val (.int (i + (1 : Int32)))] [])) := by
  have go0 : own_go p e below (T0.setTop (mkF m 16 #[.val (.ref r), .val (.int z), .val (.ref t2), .val (.int i)] [])) (T0.setTop (mkF m 16 #[.val (.ref r), .val (.int z), .val (.ref t2), .val (.int i)] [])) := fun t k => k
  obtain ⟨T1, X1, e1, st1⟩ := getF X0 hx hZ hown (host := "") (Or.inl (hw _ (List.mem_of_getElem? (i := 17) rfl))) Via.refl e0 F_count (g := (mkF m 18 #[.val (.ref r), .val (.int z), .val (.ref t2), .val (.int i)] [(.ref r), (.int i)])) rfl rfl (hb hby d4_18)
  have hc2_21 : i < k := hc
  obtain ⟨cq3, q3, q3'⟩ := E_r.cell
  obtain ⟨_, _, ⟨T3, L3, k3, n3⟩, -, X3, ⟨Lc3, hQ3, l3, y3, z3⟩, st3⟩ := X1.privateBack hx (y := (⟨"com/example/structweave/structweave/wddx/PlaceRing", "place", "(I)J"⟩ : MethodName)) hown (mvT hZ (hw _ (List.mem_of_getElem? (i := 40) rfl))) (mvT hZ (hw _ (List.mem_of_getElem? (i := 41) rfl))) (own_selp (y := (⟨"com/example/structweave/structweave/wddx/PlaceRing", "place", "(I)J"⟩ : MethodName)) (mv hZ (hw _ (List.mem_of_getElem? (i := 1) rfl))) (Cond.privateMethod_at (mvP hZ (hw _ (List.mem_of_getElem? (i := 42) rfl)) (args := #[]))) (mvT hZ (hw _ (List.mem_of_getElem? (i := 41) rfl))) (by decide)) (Cond.privateMethod_at (mvP hZ (hw _ (List.mem_of_getElem? (i := 42) rfl)) (args := #[]))) (mvT hZ (hw _ (List.mem_of_getElem? (i := 43) rfl))) (by decide) (backOf (W := 2) (rm8 l Z a0 hw [] r i t n o k h0 n0 Z0 F_places F_oldest F_count V_t hrb hp) hZ (hw _ (List.mem_of_getElem? (i := 43) rfl)) (hw _ (List.mem_of_getElem? (i := 2) rfl)) (by decide) (by decide)) (g := (mkF m 28 #[.val (.ref r), .val (.int z), .val (.ref t2), .val (.int i)] [(.int i), (.ref r), (.int i), (.ref t2)])) rfl (by rw [hml]; rfl) (Steps.refl _) (a := r) (by rw [e1]; exact q3) q3' (argsL := [(.int i)]) (rest := [(.int i), (.ref t2)]) (lenOf own_pd0 rfl) rfl (by show 2 * 0 + _ ≤ _; exact Nat.le_of_eq rfl) (hb hby d4_28) (fun _ _ => ⟨rfl, e1, (by decide : 1 + 0 ≤ _), (by decide : 7 + 0 ≤ _)⟩)
  dsimp only [Pt.U, Pt.locs, Pt.cells, Pt.slots] at X3 l3 y3 z3 st3 hQ3
  subst l3 y3 z3
  obtain ⟨x3, rfl, Nq3, e3⟩ := hQ3
  have N3 := Fr.app N0 Nq3
  obtain ⟨cl4, Ar4, S4, M4, G4⟩ := id V_t2
  have hin4 : ¬ (i < 0 ∨ cl4.slots.size ≤ (i).toNatClampNeg) := inb_of S4 hz
  obtain ⟨T5, h5, X5, e5, W5, st5⟩ := stJ X3 hx hZ e3 Ar4 (j := i) hin4 (g := (mkF m 31 #[.val (.ref r), .val (.int z), .val (.ref t2), .val (.int i)] [(.long x3), (.int i), (.ref t2)])) rfl rfl (hb hby d4_31)
  have Z5 : n0 ≤ h5.size := Nat.le_trans Z0 (Nat.le_of_eq W5.size.symm)
  have K5 : Keep h0 h5 [t2] := (Keep.refl h0 [t2]).wr W5 (Or.inl (List.mem_of_getElem? (i := 0) rfl))
  have N5 := Fr.snoc X5 N3 g_t2
  have V5 := own_la.st V_t2 W5
  have go6 : own_go p e below (T0.setTop (mkF m 16 #[.val (.ref r), .val (.int z), .val (.ref t2), .val (.int i)] [])) (T5.setTop (mkF m 16 #[.val (.ref r), .val (.int z), .val (.ref t2), .val (.int (i + (1 : Int32)))] [])) := by
    intro ttx ktx
    refine go0 ttx ?_
    show Steps p.tables e below (T0.setTop (mkF m 16 #[.val (.ref r), .val (.int z), .val (.ref t2), .val (.int i)] [])) _
    refine XS.iloadN X0.here hx rfl (hb hby d4_16) rfl ?_
    show Steps p.tables e below (T0.setTop (mkF m 17 #[.val (.ref r), .val (.int z), .val (.ref t2), .val (.int i)] [(.int i)])) _
    refine XS.aloadN X0.here hx rfl (hb hby d4_17) rfl rfl ?_
    show Steps p.tables e below (T0.setTop (mkF m 18 #[.val (.ref r), .val (.int z), .val (.ref t2), .val (.int i)] [(.ref r), (.int i)])) _
    refine st1 _ ?_
    show Steps p.tables e below (T1.setTop (mkF m 21 #[.val (.ref r), .val (.int z), .val (.ref t2), .val (.int i)] [(.int k), (.int i)])) _
    refine XS.icmpNo X1.here hx rfl (hb hby d4_21) rfl (tlt hc2_21).2.1 ?_
    show Steps p.tables e below (T1.setTop (mkF m 24 #[.val (.ref r), .val (.int z), .val (.ref t2), .val (.int i)] [])) _
    refine XS.aloadN X1.here hx rfl (hb hby d4_24) rfl rfl ?_
    show Steps p.tables e below (T1.setTop (mkF m 25 #[.val (.ref r), .val (.int z), .val (.ref t2), .val (.int i)] [(.ref t2)])) _
    refine XS.iloadN X1.here hx rfl (hb hby d4_25) rfl ?_
    show Steps p.tables e below (T1.setTop (mkF m 26 #[.val (.ref r), .val (.int z), .val (.ref t2), .val (.int i)] [(.int i), (.ref t2)])) _
    refine XS.aloadN X1.here hx rfl (hb hby d4_26) rfl rfl ?_
    show Steps p.tables e below (T1.setTop (mkF m 27 #[.val (.ref r), .val (.int z), .val (.ref t2), .val (.int i)] [(.ref r), (.int i), (.ref t2)])) _
    refine XS.iloadN X1.here hx rfl (hb hby d4_27) rfl ?_
    show Steps p.tables e below (T1.setTop (mkF m 28 #[.val (.ref r), .val (.int z), .val (.ref t2), .val (.int i)] [(.int i), (.ref r), (.int i), (.ref t2)])) _
    refine st3.trans ?_
    show Steps p.tables e below (T3.setTop (mkF m 31 #[.val (.ref r), .val (.int z), .val (.ref t2), .val (.int i)] [(.long x3), (.int i), (.ref t2)])) _
    refine st5 _ ?_
    show Steps p.tables e below (T5.setTop (mkF m 32 #[.val (.ref r), .val (.int z), .val (.ref t2), .val (.int i)] [])) _
    refine XS.iinc X5.here hx rfl (hb hby d4_32) rfl (l' := #[.val (.ref r), .val (.int z), .val (.ref t2), .val (.int (i + (1 : Int32)))]) rfl ?_
    show Steps p.tables e below (T5.setTop (mkF m 35 #[.val (.ref r), .val (.int z), .val (.ref t2), .val (.int (i + (1 : Int32)))] [])) _
    refine XS.goto X5.here hx rfl (pc0 := 35) (pc' := 16) rfl (hb hby d4_35) (by decide) (by decide) ?_
    exact ktx
  exact ⟨T5, h5, _, X5, e5, N5, K5, V5, go6⟩
set_option maxRecDepth 65536 in
set_option maxHeartbeats 40000000 in
theorem own_leaveM {p : Program} {l : Launch} {e : Env} {s : State} {m : MethodId} {args : Array Value} {below : List Frame} {meth : Method} {c : Code} {T0 : State} {locs : List Loc} {Z : State} {a0 : Array Value} {h0 : Heap} {n0 : Nat} (r : Addr) (z : Int32) (t2 : Addr) (i : Int32) (t : Addr) (n : Int32) (o : Int32) (k : Int32)
    (X0 : Stand p l e ({ frames := 1, cells := 1, slots := 7, locals := 15 } : Room) s m args below meth c T0 locs 1 7) (hx : p.tables.exec = Jvm.exec) (hZ : Z.Warmed39 s.vm) (hw : ∀ d ∈ tables_1, d.before a0 Z = true) (hby : c.code = prog_44_method_3_code) (hml : c.maxLocals = 4) (hown : s.vm.findClass "com/example/structweave/structweave/wddx/PlaceRing" = some m.cls) (e0 : T0.heap = h0) (Z0 : n0 ≤ h0.size) (N0 : Fr n0 locs) (E_r : Exa Z h0 r "com/example/structweave/structweave/wddx/PlaceRing") (F_places : Fld Z h0 r "com/example/structweave/structweave/wddx/PlaceRing" "places" "[J" (.ref t)) (F_oldest : Fld Z h0 r "com/example/structweave/structweave/wddx/PlaceRing" "oldest" "I" (.int o)) (F_count : Fld Z h0 r "com/example/structweave/structweave/wddx/PlaceRing" "count" "I" (.int k)) (V_t : own_la Z h0 t n) (V_t2 : own_la Z h0 t2 z) (hrb : own_rb n o k) (g_t2 : n0 ≤ t2) (ne1 : r ≠ t2) (ne2 : t ≠ t2) (hc : ¬ i < k) :
    ∃ (T' : State) (h' : Heap) (locs' : List Loc), Stand p l e ({ frames := 1, cells := 1, slots := 7, locals := 15 } : Room) s m args below meth c T' locs' 1 7 ∧ T'.heap = h' ∧ Fr n0 locs' ∧ h' = h0 ∧ own_go p e below (T0.setTop (mkF m 16 #[.val (.ref r), .val (.int z), .val (.ref t2), .val (.int i)] [])) (T'.setTop (mkF m 38 #[.val (.ref r), .val (.int z), .val (.ref t2), .val (.int i)] [])) := by
  have go0 : own_go p e below (T0.setTop (mkF m 16 #[.val (.ref r), .val (.int z), .val (.ref t2), .val (.int i)] [])) (T0.setTop (mkF m 16 #[.val (.ref r), .val (.int z), .val (.ref t2), .val (.int i)] [])) := fun t k => k
  obtain ⟨T1, X1, e1, st1⟩ := getF X0 hx hZ hown (host := "") (Or.inl (hw _ (List.mem_of_getElem? (i := 17) rfl))) Via.refl e0 F_count (g := (mkF m 18 #[.val (.ref r), .val (.int z), .val (.ref t2), .val (.int i)] [(.ref r), (.int i)])) rfl rfl (hb hby d4_18)
  have hc2_21 : ¬ (i < k) := hc
  have go3 : own_go p e below (T0.setTop (mkF m 16 #[.val (.ref r), .val (.int z), .val (.ref t2), .val (.int i)] [])) (T1.setTop (mkF m 38 #[.val (.ref r), .val (.int z), .val (.ref t2), .val (.int i)] [])) := by
    intro ttx ktx
    refine go0 ttx ?_
    show Steps p.tables e below (T0.setTop (mkF m 16 #[.val (.ref r), .val (.int z), .val (.ref t2), .val (.int i)] [])) _
    refine XS.iloadN X0.here hx rfl (hb hby d4_16) rfl ?_
    show Steps p.tables e below (T0.setTop (mkF m 17 #[.val (.ref r), .val (.int z), .val (.ref t2), .val (.int i)] [(.int i)])) _
    refine XS.aloadN X0.here hx rfl (hb hby d4_17) rfl rfl ?_
    show Steps p.tables e below (T0.setTop (mkF m 18 #[.val (.ref r), .val (.int z), .val (.ref t2), .val (.int i)] [(.ref r), (.int i)])) _
    refine st1 _ ?_
    show Steps p.tables e below (T1.setTop (mkF m 21 #[.val (.ref r), .val (.int z), .val (.ref t2), .val (.int i)] [(.int k), (.int i)])) _
    refine XS.icmpYes X1.here hx rfl (pc0 := 21) (pc' := 38) rfl (hb hby d4_21) rfl (flt hc2_21).2.1 (by decide) (by decide) ?_
    exact ktx
  exact ⟨T1, h0, _, X1, e1, N0, rfl, go3⟩
set_option maxHeartbeats 4000000 in
theorem own_loopM {p : Program} {l : Launch} {e : Env} {s : State} {m : MethodId} {args : Array Value} {below : List Frame} {meth : Method} {c : Code} {Z : State} {a0 : Array Value} {n0 : Nat} (r : Addr) (z : Int32) (t2 : Addr) (t : Addr) (n o k : Int32)
    (hx : p.tables.exec = Jvm.exec) (hZ : Z.Warmed39 s.vm) (hw : ∀ d ∈ tables_1, d.before a0 Z = true) (hby : c.code = prog_44_method_3_code) (hml : c.maxLocals = 4) (hown : s.vm.findClass "com/example/structweave/structweave/wddx/PlaceRing" = some m.cls) (hrb : own_rb n o k) (g_t2 : n0 ≤ t2) (ne1 : r ≠ t2) (ne2 : t ≠ t2) (hkz : k.toInt ≤ z.toInt) :
    ∀ (j : Nat) (i : Int32) (T0 : State) (locs : List Loc) (h0 : Heap), Stand p l e ({ frames := 1, cells := 1, slots := 7, locals := 15 } : Room) s m args below meth c T0 locs 1 7 → T0.heap = h0 → n0 ≤ h0.size → Fr n0 locs → Exa Z h0 r "com/example/structweave/structweave/wddx/PlaceRing" → Fld Z h0 r "com/example/structweave/structweave/wddx/PlaceRing" "places" "[J" (.ref t) → Fld Z h0 r "com/example/structweave/structweave/wddx/PlaceRing" "oldest" "I" (.int o) → Fld Z h0 r "com/example/structweave/structweave/wddx/PlaceRing" "count" "I" (.int k) → own_la Z h0 t n → own_la Z h0 t2 z → 0 ≤ i.toInt → k.toInt - i.toInt = (j : Int) →
    ∃ (T' : State) (h' : Heap) (locs' : List Loc) (i' : Int32), Stand p l e ({ frames := 1, cells := 1, slots := 7, locals := 15 } : Room) s m args below meth c T' locs' 1 7 ∧ T'.heap = h' ∧ Fr n0 locs' ∧ Keep h0 h' [t2] ∧ own_la Z h' t2 z ∧ own_go p e below (T0.setTop (mkF m 16 #[.val (.ref r), .val (.int z), .val (.ref t2), .val (.int i)] [])) (T'.setTop (mkF m 38 #[.val (.ref r), .val (.int z), .val (.ref t2), .val (.int i')] [])) := by
  intro j
  induction j with
  | zero =>
    intro i T0 locs h0 X0 e0 Z0 N0 E_r Fp Fo Fc V_t V_t2 hi hj
    have hc : ¬ i < k := by rw [Int32.lt_iff_toInt_lt]; omega
    obtain ⟨T1, h1, L1, X1, e1, N1, rfl, go1⟩ := own_leaveM r z t2 i t n o k X0 hx hZ hw hby hml hown e0 Z0 N0 E_r Fp Fo Fc V_t V_t2 hrb g_t2 ne1 ne2 hc
    exact ⟨T1, _, L1, i, X1, e1, N1, Keep.refl _ _, V_t2, go1⟩
  | succ j ih =>
    intro i T0 locs h0 X0 e0 Z0 N0 E_r Fp Fo Fc V_t V_t2 hi hj
    have hc : i < k := by rw [Int32.lt_iff_toInt_lt]; omega
    have hb := hrb
    obtain ⟨b1, b2, b3, b4, b5, b6⟩ := hb
    have a1 := c_iadd i 1
    have a2 := rng32 (i + 1)
    have e1' : (1 : Int32).toInt = 1 := rfl
    have e0' : (0 : Int32).toInt = 0 := rfl
    have hz : ¬ i < 0 ∧ i < z := by rw [Int32.lt_iff_toInt_lt, Int32.lt_iff_toInt_lt]; omega
    obtain ⟨T1, h1, L1, X1, e1, N1, K1, V1, go1⟩ := own_turnM r z t2 i t n o k X0 hx hZ hw hby hml hown e0 Z0 N0 E_r Fp Fo Fc V_t V_t2 hrb g_t2 ne1 ne2 ⟨hi, by omega⟩ hc hz
    obtain ⟨T2, h2, L2, i2, X2, e2, N2, K2, V2, go2⟩ := ih (i + 1) T1 L1 h1 X1 e1 (Nat.le_trans Z0 K1.1) N1 (E_r.keep K1) (Fp.keep K1 (ninS ne1 nin0)) (Fo.keep K1 (ninS ne1 nin0)) (Fc.keep K1 (ninS ne1 nin0)) (V_t.keep K1 (ninS ne2 nin0)) V1 (by omega) (by omega)
    exact ⟨T2, h2, L2, i2, X2, e2, N2, K1.trans K2 (fun x hx => Or.inl hx), V2, fun t k => go1 t (go2 t k)⟩
theorem own_grow {n o k z : Int32} (h : own_rb n o k) (q : n < z) (hp : 0 ≤ z.toInt ∧ z.toInt ≤ 7) : own_rb z 0 k := by
  obtain ⟨h1, h2, h3, h4, h5, h6⟩ := h
  rw [Int32.lt_iff_toInt_lt] at q
  have e0 : (0 : Int32).toInt = 0 := rfl
  refine ⟨?_, ?_, ?_, ?_, ?_, ?_⟩ <;> omega
theorem d4_0 : decode prog_44_method_3_code 0 = .ok (.iload_n 1, 1) := by decide +kernel
theorem d4_1 : decode prog_44_method_3_code 1 = .ok (.aload_n 0, 1) := by decide +kernel
theorem d4_2 : decode prog_44_method_3_code 2 = .ok (.getfield 7, 3) := by decide +kernel
theorem d4_5 : decode prog_44_method_3_code 5 = .ok (.arraylength, 1) := by decide +kernel
theorem d4_6 : decode prog_44_method_3_code 6 = .ok (.if_icmp .gt 4, 3) := by decide +kernel
theorem d4_10 : decode prog_44_method_3_code 10 = .ok (.iload_n 1, 1) := by decide +kernel
theorem d4_11 : decode prog_44_method_3_code 11 = .ok (.newarray .long, 2) := by decide +kernel
theorem d4_13 : decode prog_44_method_3_code 13 = .ok (.astore_n 2, 1) := by decide +kernel
theorem d4_14 : decode prog_44_method_3_code 14 = .ok (.iconst 0, 1) := by decide +kernel
theorem d4_15 : decode prog_44_method_3_code 15 = .ok (.istore_n 3, 1) := by decide +kernel
theorem d4_38 : decode prog_44_method_3_code 38 = .ok (.aload_n 0, 1) := by decide +kernel
theorem d4_39 : decode prog_44_method_3_code 39 = .ok (.aload_n 2, 1) := by decide +kernel
theorem d4_40 : decode prog_44_method_3_code 40 = .ok (.putfield 7, 3) := by decide +kernel
theorem d4_43 : decode prog_44_method_3_code 43 = .ok (.aload_n 0, 1) := by decide +kernel
theorem d4_44 : decode prog_44_method_3_code 44 = .ok (.iconst 0, 1) := by decide +kernel
theorem d4_45 : decode prog_44_method_3_code 45 = .ok (.putfield 13, 3) := by decide +kernel
theorem d4_48 : decode prog_44_method_3_code 48 = .ok (.return_, 1) := by decide +kernel
theorem d4_9 : decode prog_44_method_3_code 9 = .ok (.return_, 1) := by decide +kernel
theorem ef_4 (m : MethodId) (x0 : Addr) (x1 : Int32) : entryFrame m #[(.ref x0), (.int x1)] 4 = mkF m 0 #[.val (.ref x0), .val (.int x1), .unset, .unset] [] := by first | (simp [entryFrame, mkF, argsToLocals, Value.category]; done) | rfl
def Q4 (Z : State) (a1 : Addr) (p2 : Int32) (t : Addr) (n : Int32) (o : Int32) (k : Int32) (h0 : Heap) (n0 : Nat) (v : Option Value) (h : Heap) (L : List Loc) : Prop := v = none ∧ Fr n0 L ∧ Keep h0 h [a1] ∧ Exa Z h a1 "com/example/structweave/structweave/wddx/PlaceRing" ∧ ∃ (t2 : Addr) (n2 o2 : Int32), n0 ≤ t2 ∧ (t2 = t ∨ h0.size ≤ t2) ∧ Fld Z h a1 "com/example/structweave/structweave/wddx/PlaceRing" "places" "[J" (.ref t2) ∧ Fld Z h a1 "com/example/structweave/structweave/wddx/PlaceRing" "oldest" "I" (.int o2) ∧ Fld Z h a1 "com/example/structweave/structweave/wddx/PlaceRing" "count" "I" (.int k) ∧ own_la Z h t2 n2 ∧ own_rb n2 o2 k
set_option maxRecDepth 65536 in
set_option maxHeartbeats 40000000 in
theorem rm4 (l : Launch) (Z : State) (a0 : Array Value) (hw : ∀ d ∈ tables_1, d.before a0 Z = true) (ws : List Jvm.Cond) (a1 : Addr) (p2 : Int32) (t : Addr) (n : Int32) (o : Int32) (k : Int32) (h0 : Heap) (n0 : Nat) (Z0 : n0 ≤ h0.size) (E_a1 : Exa Z h0 a1 "com/example/structweave/structweave/wddx/PlaceRing") (g_a1 : n0 ≤ a1) (g_t : n0 ≤ t) (ne_t : a1 ≠ t) (F_places : Fld Z h0 a1 "com/example/structweave/structweave/wddx/PlaceRing" "places" "[J" (.ref t)) (F_oldest : Fld Z h0 a1 "com/example/structweave/structweave/wddx/PlaceRing" "oldest" "I" (.int o)) (F_count : Fld Z h0 a1 "com/example/structweave/structweave/wddx/PlaceRing" "count" "I" (.int k)) (V_t : own_la Z h0 t n) (hrb : own_rb n o k) (hp : 0 ≤ p2.toInt ∧ p2.toInt ≤ 7) :
    MetFree l (⟨"com/example/structweave/structweave/wddx/PlaceRing", "makeRoom", "(I)V"⟩ : MethodName) (head1 (Jvm.Cond.code (⟨"com/example/structweave/structweave/wddx/PlaceRing", "makeRoom", "(I)V"⟩ : MethodName) prog_44_method_3_code 4 none :: ws) ({ frames := 1, cells := 1, slots := 7, locals := 15 } : Room)) (fun aax UU => aax = #[(.ref a1), (.int p2)] ∧ Z.Warmed39 UU.vm ∧ UU.heap = h0) (fun _ _ _ _ _ => True) (fun _ UU oux UU' => ∃ rvx Lrx, oux = .returned rvx ∧ Q4 Z a1 p2 t n o k h0 n0 rvx UU'.heap Lrx ∧ FrameEnd UU oux UU' Lrx ({ frames := 1, cells := 1, slots := 7, locals := 15 } : Room).cells ({ frames := 1, cells := 1, slots := 7, locals := 15 } : Room).slots) := by
  refine MetFree.of_bodySF (plainFor_of_name own_pn_com_example_structweave_structweave_wddx_PlaceRing) hisR ?_
  intro p e s m args below meth c s₁ Bd hml0 hP hK
  obtain ⟨rfl, hZ, hh⟩ := hP
  have hx := Bd.exec
  have hby := Bd.bytes
  have hml : c.maxLocals = 4 := hml0
  have hown : s.vm.findClass "com/example/structweave/structweave/wddx/PlaceRing" = some m.cls := findClass_of_methodNamed Bd.named
  have hnm := (name_of_methodNamed Bd.named Bd.method).1
  have X0 : Stand p l e ({ frames := 1, cells := 1, slots := 7, locals := 15 } : Room) s m #[(.ref a1), (.int p2)] below meth c s₁ [] 0 0 := Stand.of_body Bd
  have e0 : s₁.heap = h0 := by rw [← hh, Bd.state]; rfl
  have N0 := Fr.nil n0
  have p0 : own_go p e below (s₁.setTop (entryFrame m #[(.ref a1), (.int p2)] 4)) (s₁.setTop (mkF m 0 #[.val (.ref a1), .val (.int p2), .unset, .unset] [])) := fun t k => castTop (ef_4 m a1 p2) k
  obtain ⟨T1, X1, e1, st1⟩ := getF X0 hx hZ hown (host := "") (Or.inl (hw _ (List.mem_of_getElem? (i := 10) rfl))) Via.refl e0 F_places (g := (mkF m 2 #[.val (.ref a1), .val (.int p2), .unset, .unset] [(.ref a1), (.int p2)])) rfl rfl (hb hby d4_2)
  obtain ⟨cl2, Ar2, S2, M2, -⟩ := id V_t
  have go3 : own_go p e below (s₁.setTop (entryFrame m #[(.ref a1), (.int p2)] 4)) (T1.setTop (mkF m 6 #[.val (.ref a1), .val (.int p2), .unset, .unset] [(.int n), (.int p2)])) := by
    intro ttx ktx
    refine p0 ttx ?_
    show Steps p.tables e below (s₁.setTop (mkF m 0 #[.val (.ref a1), .val (.int p2), .unset, .unset] [])) _
    refine XS.iloadN X0.here hx rfl (hb hby d4_0) rfl ?_
    show Steps p.tables e below (s₁.setTop (mkF m 1 #[.val (.ref a1), .val (.int p2), .unset, .unset] [(.int p2)])) _
    refine XS.aloadN X0.here hx rfl (hb hby d4_1) rfl rfl ?_
    show Steps p.tables e below (s₁.setTop (mkF m 2 #[.val (.ref a1), .val (.int p2), .unset, .unset] [(.ref a1), (.int p2)])) _
    refine st1 _ ?_
    show Steps p.tables e below (T1.setTop (mkF m 5 #[.val (.ref a1), .val (.int p2), .unset, .unset] [(.ref t), (.int p2)])) _
    refine X1.arraylength hx (by rw [e1]; exact Ar2.1) (State.isArrayOf_alike hZ.alike Ar2.2.1) (g := (mkF m 5 #[.val (.ref a1), .val (.int p2), .unset, .unset] [(.ref t), (.int p2)])) rfl rfl (hb hby d4_5) _ ?_
    rw [len_of S2 M2]
    exact ktx
  by_cases hc4_6 : n < p2
  · have hkz : k.toInt ≤ p2.toInt := by have q := Int32.lt_iff_toInt_lt.mp hc4_6; have := hrb.2.2.2.2.2; omega
    have hcp : ¬ p2 < 0 ∧ p2.toNatClampNeg ≤ 7 := ⟨by rw [Int32.lt_iff_toInt_lt]; have e0 : (0 : Int32).toInt = 0 := rfl; omega, by show p2.toInt.toNat ≤ 7; omega⟩
    obtain ⟨T5, h5, k5, X5, e5, E5, A5, st5⟩ := newP X1 hx hZ (hw _ (List.mem_of_getElem? (i := 9) rfl)) e1 (g := (mkF m 11 #[.val (.ref a1), .val (.int p2), .unset, .unset] [(.int p2)])) rfl (hb hby d4_11) rfl hcp.1 (cap := 7) hcp.2 (by decide) (by decide) (by decide)
    obtain ⟨b5, g5⟩ : ∃ z, z = h0.size := ⟨_, rfl⟩
    rw [← g5] at A5 st5
    have ne6 : a1 ≠ b5 := Nat.ne_of_lt (Nat.lt_of_lt_of_le E_a1.lt (Nat.le_of_eq g5.symm))
    have ne7 : t ≠ b5 := Nat.ne_of_lt (Nat.lt_of_lt_of_le V_t.lt (Nat.le_of_eq g5.symm))
    have g_b5 : n0 ≤ b5 := Nat.le_trans Z0 (Nat.le_of_eq g5.symm)
    have sz_b5 : h0.size ≤ b5 := Nat.le_trans (Keep.refl h0 [a1]).1 (Nat.le_of_eq g5.symm)
    have Z5 : n0 ≤ h5.size := Nat.le_trans Z0 E5.1
    have K5 : Keep h0 h5 [a1] := (Keep.refl h0 [a1]).ext E5
    have V5 : Arv Z h5 b5 k5 .long p2 [] (.long (0 : Int64)) := Arv.new A5 hcp.1
    have VL5 : own_la Z h5 b5 p2 := own_la.new A5 hcp.1
    have go8 : own_go p e below (s₁.setTop (entryFrame m #[(.ref a1), (.int p2)] 4)) (T5.setTop (mkF m 16 #[.val (.ref a1), .val (.int p2), .val (.ref b5), .val (.int (0 : Int32))] [])) := by
      intro ttx ktx
      refine go3 ttx ?_
      show Steps p.tables e below (T1.setTop (mkF m 6 #[.val (.ref a1), .val (.int p2), .unset, .unset] [(.int n), (.int p2)])) _
      refine XS.icmpYes X1.here hx rfl (pc0 := 6) (pc' := 10) rfl (hb hby d4_6) rfl (tlt hc4_6).2.2.1 (by decide) (by decide) ?_
      show Steps p.tables e below (T1.setTop (mkF m 10 #[.val (.ref a1), .val (.int p2), .unset, .unset] [])) _
      refine XS.iloadN X1.here hx rfl (hb hby d4_10) rfl ?_
      show Steps p.tables e below (T1.setTop (mkF m 11 #[.val (.ref a1), .val (.int p2), .unset, .unset] [(.int p2)])) _
      refine st5 _ ?_
      show Steps p.tables e below (T5.setTop (mkF m 13 #[.val (.ref a1), .val (.int p2), .unset, .unset] [(.ref b5)])) _
      refine XS.astoreN X5.here hx rfl (hb hby d4_13) rfl rfl (l' := #[.val (.ref a1), .val (.int p2), .val (.ref b5), .unset]) rfl ?_
      show Steps p.tables e below (T5.setTop (mkF m 14 #[.val (.ref a1), .val (.int p2), .val (.ref b5), .unset] [])) _
      refine XS.iconst X5.here hx rfl (hb hby d4_14) ?_
      show Steps p.tables e below (T5.setTop (mkF m 15 #[.val (.ref a1), .val (.int p2), .val (.ref b5), .unset] [(.int (0 : Int32))])) _
      refine XS.istoreN X5.here hx rfl (hb hby d4_15) rfl (l' := #[.val (.ref a1), .val (.int p2), .val (.ref b5), .val (.int (0 : Int32))]) rfl ?_
      exact ktx
    have f10 := (E_a1.ext E5)
    have f11 := (F_places.ext E5)
    have f12 := (F_oldest.ext E5)
    have f13 := (F_count.ext E5)
    have f14 := (V_t.ext E5)
    obtain ⟨T9, h9, L9, i9, X9, e9, N9, KL9, VL9, goL9⟩ := own_loopM a1 p2 b5 t n o k hx hZ hw hby hml hown hrb g_b5 ne6 ne7 hkz k.toInt.toNat (0 : Int32) _ _ _ X5 e5 Z5 N0 f10 f11 f12 f13 f14 VL5 (by decide) (by have := hrb.2.2.2.2.1; have e0 : (0 : Int32).toInt = 0 := rfl; omega)
    have go9 : own_go p e below (s₁.setTop (entryFrame m #[(.ref a1), (.int p2)] 4)) (T9.setTop (mkF m 38 #[.val (.ref a1), .val (.int p2), .val (.ref b5), .val (.int i9)] [])) := fun t k => go8 t (goL9 t k)
    have Z9 : n0 ≤ h9.size := Nat.le_trans Z5 KL9.1
    have K9 : Keep h0 h9 [a1] := K5.trans KL9 (allS (Or.inr sz_b5) all0)
    have f15 := (f11.keep KL9 (ninS ne6 nin0))
    have f16 := (f10.keep KL9)
    obtain ⟨T17, h17, X17, e17, W17, st17⟩ := putF X9 hx hZ hown (host := "") (Or.inl (hw _ (List.mem_of_getElem? (i := 10) rfl))) Via.refl e9 f15 f16 (Or.inl (hw _ (List.mem_of_getElem? (i := 11) rfl))) (hw _ (List.mem_of_getElem? (i := 1) rfl)) (ty := (.array .long)) (by decide) rfl rfl (g := (mkF m 40 #[.val (.ref a1), .val (.int p2), .val (.ref b5), .val (.int i9)] [(.ref b5), (.ref a1)])) rfl rfl (hb hby d4_40)
    have Z17 : n0 ≤ h17.size := Nat.le_trans Z9 (Nat.le_of_eq W17.size.symm)
    have K17 : Keep h0 h17 [a1] := K9.wr W17 (Or.inl (List.mem_of_getElem? (i := 0) rfl))
    have N17 := Fr.snoc X17 N9 g_a1
    have Fw17 := f15.same W17
    have f18 := ((f12.keep KL9 (ninS ne6 nin0)).other W17 (Or.inr (slot_ne (Or.inl (hw _ (List.mem_of_getElem? (i := 25) rfl))) (Or.inl (hw _ (List.mem_of_getElem? (i := 11) rfl))) (by decide) (t := .int) (t' := (.array .long)) (by decide) (by decide))))
    have f19 := (f16.wr W17)
    obtain ⟨T20, h20, X20, e20, W20, st20⟩ := putF X17 hx hZ hown (host := "") (Or.inl (hw _ (List.mem_of_getElem? (i := 24) rfl))) Via.refl e17 f18 f19 (Or.inl (hw _ (List.mem_of_getElem? (i := 25) rfl))) (hw _ (List.mem_of_getElem? (i := 1) rfl)) (ty := .int) (by decide) rfl rfl (g := (mkF m 45 #[.val (.ref a1), .val (.int p2), .val (.ref b5), .val (.int i9)] [(.int (0 : Int32)), (.ref a1)])) rfl rfl (hb hby d4_45)
    have Z20 : n0 ≤ h20.size := Nat.le_trans Z17 (Nat.le_of_eq W20.size.symm)
    have K20 : Keep h0 h20 [a1] := K17.wr W20 (Or.inl (List.mem_of_getElem? (i := 0) rfl))
    have N20 := Fr.snoc X20 N17 g_a1
    have Fw20 := f18.same W20
    have go21 : own_go p e below (s₁.setTop (entryFrame m #[(.ref a1), (.int p2)] 4)) (T20.setTop (mkF m 48 #[.val (.ref a1), .val (.int p2), .val (.ref b5), .val (.int i9)] [])) := by
      intro ttx ktx
      refine go9 ttx ?_
      show Steps p.tables e below (T9.setTop (mkF m 38 #[.val (.ref a1), .val (.int p2), .val (.ref b5), .val (.int i9)] [])) _
      refine XS.aloadN X9.here hx rfl (hb hby d4_38) rfl rfl ?_
      show Steps p.tables e below (T9.setTop (mkF m 39 #[.val (.ref a1), .val (.int p2), .val (.ref b5), .val (.int i9)] [(.ref a1)])) _
      refine XS.aloadN X9.here hx rfl (hb hby d4_39) rfl rfl ?_
      show Steps p.tables e below (T9.setTop (mkF m 40 #[.val (.ref a1), .val (.int p2), .val (.ref b5), .val (.int i9)] [(.ref b5), (.ref a1)])) _
      refine st17 _ ?_
      show Steps p.tables e below (T17.setTop (mkF m 43 #[.val (.ref a1), .val (.int p2), .val (.ref b5), .val (.int i9)] [])) _
      refine XS.aloadN X17.here hx rfl (hb hby d4_43) rfl rfl ?_
      show Steps p.tables e below (T17.setTop (mkF m 44 #[.val (.ref a1), .val (.int p2), .val (.ref b5), .val (.int i9)] [(.ref a1)])) _
      refine XS.iconst X17.here hx rfl (hb hby d4_44) ?_
      show Steps p.tables e below (T17.setTop (mkF m 45 #[.val (.ref a1), .val (.int p2), .val (.ref b5), .val (.int i9)] [(.int (0 : Int32)), (.ref a1)])) _
      refine st20 _ ?_
      exact ktx
    obtain ⟨fs, hr, hrun, hended, hW, hsame⟩ := X20.leave (v := none) (fun _ => rfl)
    refine ⟨_, _, go21 _ ?_, hrun, hended, _, _, rfl, ?_, ⟨_, rfl⟩, hW, hsame.mono (by decide) (by decide)⟩
    · exact X20.returnOut hx Bd.returns (hb hby d4_48) hr
    · show Q4 Z a1 p2 t n o k h0 n0 _ T20.heap _
      rw [e20]
      have f22 := (f19.wr W20)
      have f23 := (Fw17.other W20 (Or.inr (slot_ne (Or.inl (hw _ (List.mem_of_getElem? (i := 11) rfl))) (Or.inl (hw _ (List.mem_of_getElem? (i := 25) rfl))) (by decide) (t := (.array .long)) (t' := .int) (by decide) (by decide))))
      have f24 := (((f13.keep KL9 (ninS ne6 nin0)).other W17 (Or.inr (slot_ne (Or.inl (hw _ (List.mem_of_getElem? (i := 18) rfl))) (Or.inl (hw _ (List.mem_of_getElem? (i := 11) rfl))) (by decide) (t := .int) (t' := (.array .long)) (by decide) (by decide)))).other W20 (Or.inr (slot_ne (Or.inl (hw _ (List.mem_of_getElem? (i := 18) rfl))) (Or.inl (hw _ (List.mem_of_getElem? (i := 25) rfl))) (by decide) (t := .int) (t' := .int) (by decide) (by decide))))
      have f25 := ((VL9.other W17 (Ne.symm ne6)).other W20 (Ne.symm ne6))
      exact ⟨rfl, N20, K20, f22, b5, p2, (0 : Int32), g_b5, Or.inr sz_b5, f23, Fw20, f24, f25, own_grow hrb hc4_6 hp⟩
  · have go26 : own_go p e below (s₁.setTop (entryFrame m #[(.ref a1), (.int p2)] 4)) (T1.setTop (mkF m 9 #[.val (.ref a1), .val (.int p2), .unset, .unset] [])) := by
      intro ttx ktx
      refine go3 ttx ?_
      show Steps p.tables e below (T1.setTop (mkF m 6 #[.val (.ref a1), .val (.int p2), .unset, .unset] [(.int n), (.int p2)])) _
      refine XS.icmpNo X1.here hx rfl (hb hby d4_6) rfl (flt hc4_6).2.2.1 ?_
      exact ktx
    obtain ⟨fs, hr, hrun, hended, hW, hsame⟩ := X1.leave (v := none) (fun _ => rfl)
    refine ⟨_, _, go26 _ ?_, hrun, hended, _, _, rfl, ?_, ⟨_, rfl⟩, hW, hsame.mono (by decide) (by decide)⟩
    · exact X1.returnOut hx Bd.returns (hb hby d4_9) hr
    · show Q4 Z a1 p2 t n o k h0 n0 _ T1.heap _
      rw [e1]
      exact ⟨rfl, N0, (Keep.refl h0 [a1]), E_a1, t, n, o, g_t, Or.inl rfl, F_places, F_oldest, F_count, V_t, hrb⟩
theorem own_7 (x : Int32) : 0 ≤ (x &&& 7).toInt ∧ (x &&& 7).toInt ≤ 7 := c_and x 7 (by decide)
theorem own_lt {v a b : Int32} (h : v < a) (q : a.toInt ≤ b.toInt) : v < b := by rw [Int32.lt_iff_toInt_lt] at *; omega
theorem own_z {x : Int32} (h : (x &&& 3) < 1) : (x &&& 3) = 0 := by
  have b := c_and x 3 (by decide)
  rw [Int32.lt_iff_toInt_lt] at h
  have e1 : (1 : Int32).toInt = 1 := rfl
  exact Int32.toInt_inj.mp (by show _ = (0 : Int); omega)
theorem own_nz1 {v : Int32} (h : ¬ v < 1) : ¬ v = 0 := fun e => h (by subst e; decide)
theorem own_p0 {k : Int32} (h : 0 < k.toInt) : ¬ k = 0 := fun e => by subst e; exact absurd h (by decide)
theorem own_pd2 : parseMethodDescriptor "()V" = some ⟨[], none⟩ := by decide +kernel
theorem own_pd3 : parseMethodDescriptor "()Z" = some ⟨[], some .boolean⟩ := by decide +kernel
theorem own_pd4 : parseMethodDescriptor "(I)V" = some ⟨[.int], none⟩ := by decide +kernel
theorem own_pd5 : parseMethodDescriptor "(II)V" = some ⟨[.int, .int], none⟩ := by decide +kernel
theorem own_pn_com_example_structweave_structweave_wddx_PlaceRingIsEmptyPinLaw : plainName "com/example/structweave/structweave/wddx/PlaceRingIsEmptyPinLaw" = true := by first | (simp [plainName, overriddenIn]; done) | decide +kernel
theorem ef_0 (m : MethodId) (x0 : Int32) (x1 : Int32) (x2 : Int32) (x3 : Int32) (x4 : Int32) (x5 : Int32) : entryFrame m #[(.int x0), (.int x1), (.int x2), (.int x3), (.int x4), (.int x5)] maxLocals = mkF m 0 #[.val (.int x0), .val (.int x1), .val (.int x2), .val (.int x3), .val (.int x4), .val (.int x5), .unset, .unset, .unset, .unset] [] := by first | (simp [entryFrame, mkF, argsToLocals, Value.category, maxLocals]; done) | rfl
def Q0 (Z : State) (p1 : Int32) (p2 : Int32) (p3 : Int32) (p4 : Int32) (p5 : Int32) (p6 : Int32) (h0 : Heap) (n0 : Nat) (v : Option Value) (h : Heap) (L : List Loc) : Prop := v = some (.int 1) ∧ Fr n0 L
set_option maxRecDepth 65536 in
set_option maxHeartbeats 40000000 in
theorem rm0 (l : Launch) (Z : State) (a0 : Array Value) (hw : ∀ d ∈ tables_1, d.before a0 Z = true) (ws : List Jvm.Cond) (p1 : Int32) (p2 : Int32) (p3 : Int32) (p4 : Int32) (p5 : Int32) (p6 : Int32) (h0 : Heap) (n0 : Nat) (Z0 : n0 ≤ h0.size) :
    MetFree l x (head1 (Jvm.Cond.code x code maxLocals ret :: ws) room_1) (fun aax UU => aax = #[(.int p1), (.int p2), (.int p3), (.int p4), (.int p5), (.int p6)] ∧ Z.Warmed39 UU.vm ∧ UU.heap = h0) (fun _ _ _ _ _ => True) (fun _ UU oux UU' => ∃ rvx Lrx, oux = .returned rvx ∧ Q0 Z p1 p2 p3 p4 p5 p6 h0 n0 rvx UU'.heap Lrx ∧ FrameEnd UU oux UU' Lrx 16 128) := by
  refine MetFree.of_bodySF (plainFor_of_name own_pn_com_example_structweave_structweave_wddx_PlaceRingIsEmptyPinLaw) hisR ?_
  intro p e s m args below meth c s₁ Bd hml0 hP hK
  obtain ⟨rfl, hZ, hh⟩ := hP
  have hx := Bd.exec
  have hby := Bd.bytes
  have hml : c.maxLocals = 10 := hml0
  have hown : s.vm.findClass "com/example/structweave/structweave/wddx/PlaceRingIsEmptyPinLaw" = some m.cls := findClass_of_methodNamed Bd.named
  have hnm := (name_of_methodNamed Bd.named Bd.method).1
  have X0 : Stand p l e room_1 s m #[(.int p1), (.int p2), (.int p3), (.int p4), (.int p5), (.int p6)] below meth c s₁ [] 0 0 := Stand.of_body Bd
  have e0 : s₁.heap = h0 := by rw [← hh, Bd.state]; rfl
  have N0 := Fr.nil n0
  have p0 : own_go p e below (s₁.setTop (entryFrame m #[(.int p1), (.int p2), (.int p3), (.int p4), (.int p5), (.int p6)] maxLocals)) (s₁.setTop (mkF m 0 #[.val (.int p1), .val (.int p2), .val (.int p3), .val (.int p4), .val (.int p5), .val (.int p6), .unset, .unset, .unset, .unset] [])) := fun t k => castTop (ef_0 m p1 p2 p3 p4 p5 p6) k
  obtain ⟨T1, h1, X1, e1, E1, A1, D1, -, st1⟩ := newO X0 hx hZ hown (hw _ (List.mem_of_getElem? (i := 0) rfl)) (hw _ (List.mem_of_getElem? (i := 1) rfl)) (hw _ (List.mem_of_getElem? (i := 2) rfl)) e0 (g := (mkF m 0 #[.val (.int p1), .val (.int p2), .val (.int p3), .val (.int p4), .val (.int p5), .val (.int p6), .unset, .unset, .unset, .unset] [])) rfl (hb hby at_0) (by decide) (by decide)
  obtain ⟨b1, g1⟩ : ∃ z, z = h0.size := ⟨_, rfl⟩
  rw [← g1] at A1 D1 st1
  have g_b1 : n0 ≤ b1 := Nat.le_trans Z0 (Nat.le_of_eq g1.symm)
  have Z1 : n0 ≤ h1.size := Nat.le_trans Z0 E1.1
  have F1_places : Fld Z h1 b1 "com/example/structweave/structweave/wddx/PlaceRing" "places" "[J" .null := D1 (Or.inl (hw _ (List.mem_of_getElem? (i := 11) rfl))) (ty := (.array .long)) (by decide)
  have F1_count : Fld Z h1 b1 "com/example/structweave/structweave/wddx/PlaceRing" "count" "I" (.int (0 : Int32)) := D1 (Or.inl (hw _ (List.mem_of_getElem? (i := 18) rfl))) (ty := .int) (by decide)
  have F1_oldest : Fld Z h1 b1 "com/example/structweave/structweave/wddx/PlaceRing" "oldest" "I" (.int (0 : Int32)) := D1 (Or.inl (hw _ (List.mem_of_getElem? (i := 25) rfl))) (ty := .int) (by decide)
  obtain ⟨_, _, ⟨T2, L2, k2, n2⟩, -, X2, ⟨Lc2, hQ2, l2, y2, z2⟩, st2⟩ := X1.specialBack hx (y := (⟨"com/example/structweave/structweave/wddx/PlaceRing", "<init>", "()V"⟩ : MethodName)) rfl hown (mvT hZ (hw _ (List.mem_of_getElem? (i := 3) rfl))) (mvT hZ (hw _ (List.mem_of_getElem? (i := 4) rfl))) (mvT hZ (hw _ (List.mem_of_getElem? (i := 5) rfl))) (by decide) (backOf (W := 1) (rm1 l Z a0 hw [] b1  h1 n0 Z1 A1 g_b1 F1_places F1_oldest F1_count) hZ (hw _ (List.mem_of_getElem? (i := 5) rfl)) (hw _ (List.mem_of_getElem? (i := 2) rfl)) (by decide) (by decide)) (g := (mkF m 4 #[.val (.int p1), .val (.int p2), .val (.int p3), .val (.int p4), .val (.int p5), .val (.int p6), .unset, .unset, .unset, .unset] [(.ref b1), (.ref b1)])) rfl (by rw [hml]; rfl) (Steps.refl _) (a := b1) (argsL := []) (rest := [(.ref b1)]) (lenOf own_pd2 rfl) rfl (by show 2 * 0 + _ ≤ _; exact Nat.le_of_eq rfl) (hb hby at_4) (fun _ _ => ⟨rfl, e1, (by decide : 1 + 1 ≤ _), (by decide : 3 + 1 ≤ _)⟩)
  dsimp only [Pt.U, Pt.locs, Pt.cells, Pt.slots] at X2 l2 y2 z2 st2 hQ2
  subst l2 y2 z2
  obtain ⟨rfl, Nq2, Kq2, Eq2, t2, gq2, sq2, Fp2, Fo2, Fc2, Vq2⟩ := hQ2
  have N2 := Fr.app N0 Nq2
  have ne3 : b1 ≠ t2 := Nat.ne_of_lt (Nat.lt_of_lt_of_le A1.lt sq2)
  have g_t2 := gq2
  have Z2 : n0 ≤ T2.heap.size := Nat.le_trans Z1 Kq2.1
  obtain ⟨cq4, kq4, q4a, q4b, q4c⟩ := isOf hZ rfl Eq2
  obtain ⟨_, _, ⟨T4, L4, k4, n4⟩, -, X4, ⟨Lc4, hQ4, l4, y4, z4⟩, st4⟩ := X2.virtualBack hx (y := (⟨"com/example/structweave/structweave/wddx/PlaceRing", "isEmpty", "()Z"⟩ : MethodName)) (z := (⟨"com/example/structweave/structweave/wddx/PlaceRing", "isEmpty", "()Z"⟩ : MethodName)) hown (mvT hZ (hw _ (List.mem_of_getElem? (i := 12) rfl))) (mvT hZ (hw _ (List.mem_of_getElem? (i := 13) rfl))) (notFace_of_selects (args := #[]) (mvT hZ (hw _ (List.mem_of_getElem? (i := 15) rfl)))) (mvT hZ (hw _ (List.mem_of_getElem? (i := 15) rfl))) (mvT hZ (hw _ (List.mem_of_getElem? (i := 14) rfl))) (by decide) (backOf (W := 0) (rm3 l Z a0 hw [] b1 (0 : Int32) T2.heap n0 Z2 Fc2) hZ (hw _ (List.mem_of_getElem? (i := 16) rfl)) (hw _ (List.mem_of_getElem? (i := 2) rfl)) (by decide) (by decide)) q4a q4c (g := (mkF m 11 #[.val (.int p1), .val (.int p2), .val (.int p3), .val (.int p4), .val (.int p5), .val (.int p6), .val (.ref b1), .unset, .unset, .unset] [(.ref b1)])) rfl (by rw [hml]; rfl) (Steps.refl _) (argsL := []) (rest := []) (lenOf own_pd3 rfl) rfl (by show 2 * 0 + _ ≤ _; exact Nat.le_of_eq rfl) (hb hby at_11) (fun _ _ => ⟨rfl, rfl, (by decide : 2 + 0 ≤ _), (by decide : 4 + 0 ≤ _)⟩)
  dsimp only [Pt.U, Pt.locs, Pt.cells, Pt.slots] at X4 l4 y4 z4 st4 hQ4
  subst l4 y4 z4
  obtain ⟨rfl, Nq4, e4⟩ := hQ4
  have N4 := Fr.app N2 Nq4
  obtain ⟨v5, hv_v5⟩ : ∃ z : Int32, z = (if (0 : Int32) = (0 : Int32) then (1 : Int32) else (0 : Int32)) := ⟨_, rfl⟩
  obtain ⟨cq6, kq6, q6a, q6b, q6c⟩ := isOf hZ e4 Eq2
  obtain ⟨_, _, ⟨T6, L6, k6, n6⟩, -, X6, ⟨Lc6, hQ6, l6, y6, z6⟩, st6⟩ := X4.virtualBack hx (y := (⟨"com/example/structweave/structweave/wddx/PlaceRing", "makeRoom", "(I)V"⟩ : MethodName)) (z := (⟨"com/example/structweave/structweave/wddx/PlaceRing", "makeRoom", "(I)V"⟩ : MethodName)) hown (mvT hZ (hw _ (List.mem_of_getElem? (i := 19) rfl))) (mvT hZ (hw _ (List.mem_of_getElem? (i := 20) rfl))) (notFace_of_selects (args := #[]) (mvT hZ (hw _ (List.mem_of_getElem? (i := 22) rfl)))) (mvT hZ (hw _ (List.mem_of_getElem? (i := 22) rfl))) (mvT hZ (hw _ (List.mem_of_getElem? (i := 21) rfl))) (by decide) (backOf (W := 0) (rm4 l Z a0 hw [] b1 (p2 &&& (7 : Int32)) t2 (1 : Int32) (0 : Int32) (0 : Int32) T2.heap n0 Z2 Eq2 g_b1 g_t2 ne3 Fp2 Fo2 Fc2 Vq2 (⟨by decide, by decide, by decide, by decide, by decide, by decide⟩ : own_rb 1 0 0) (own_7 _)) hZ (hw _ (List.mem_of_getElem? (i := 23) rfl)) (hw _ (List.mem_of_getElem? (i := 2) rfl)) (by decide) (by decide)) q6a q6c (g := (mkF m 22 #[.val (.int p1), .val (.int p2), .val (.int p3), .val (.int p4), .val (.int p5), .val (.int p6), .val (.ref b1), .val (.int v5), .unset, .unset] [(.int (p2 &&& (7 : Int32))), (.ref b1)])) rfl (by rw [hml]; rfl) (Steps.refl _) (argsL := [(.int (p2 &&& (7 : Int32)))]) (rest := []) (lenOf own_pd4 rfl) rfl (by show 2 * 0 + _ ≤ _; exact Nat.le_of_eq rfl) (hb hby at_22) (fun _ _ => ⟨rfl, e4, (by decide : 2 + 1 ≤ _), (by decide : 4 + 7 ≤ _)⟩)
  dsimp only [Pt.U, Pt.locs, Pt.cells, Pt.slots] at X6 l6 y6 z6 st6 hQ6
  subst l6 y6 z6
  obtain ⟨rfl, Nq6, Kq6, Eq6, tm6, nm6, om6, gq6, dq6, Fp6, Fo6, Fc6, Vq6, rb6⟩ := hQ6
  have N6 := Fr.app N4 Nq6
  have ne7 : b1 ≠ tm6 := by rcases dq6 with rfl | q; exact ne3; exact Nat.ne_of_lt (Nat.lt_of_lt_of_le Eq2.lt q)
  have g_tm6 := gq6
  have Z6 : n0 ≤ T6.heap.size := Nat.le_trans Z2 Kq6.1
  have hc8_27 : ¬ (v5 = (0 : Int32)) := by rw [hv_v5]; decide
  have go9 : own_go p e below (s₁.setTop (entryFrame m #[(.int p1), (.int p2), (.int p3), (.int p4), (.int p5), (.int p6)] maxLocals)) (T6.setTop (mkF m 30 #[.val (.int p1), .val (.int p2), .val (.int p3), .val (.int p4), .val (.int p5), .val (.int p6), .val (.ref b1), .val (.int v5), .unset, .unset] [])) := by
    intro ttx ktx
    refine p0 ttx ?_
    show Steps p.tables e below (s₁.setTop (mkF m 0 #[.val (.int p1), .val (.int p2), .val (.int p3), .val (.int p4), .val (.int p5), .val (.int p6), .unset, .unset, .unset, .unset] [])) _
    refine st1 _ ?_
    show Steps p.tables e below (T1.setTop (mkF m 3 #[.val (.int p1), .val (.int p2), .val (.int p3), .val (.int p4), .val (.int p5), .val (.int p6), .unset, .unset, .unset, .unset] [(.ref b1)])) _
    refine XS.dup X1.here hx rfl (hb hby at_3) rfl rfl ?_
    show Steps p.tables e below (T1.setTop (mkF m 4 #[.val (.int p1), .val (.int p2), .val (.int p3), .val (.int p4), .val (.int p5), .val (.int p6), .unset, .unset, .unset, .unset] [(.ref b1), (.ref b1)])) _
    refine st2.trans ?_
    show Steps p.tables e below (T2.setTop (mkF m 7 #[.val (.int p1), .val (.int p2), .val (.int p3), .val (.int p4), .val (.int p5), .val (.int p6), .unset, .unset, .unset, .unset] [(.ref b1)])) _
    refine XS.astore X2.here hx rfl (hb hby at_7) rfl rfl (l' := #[.val (.int p1), .val (.int p2), .val (.int p3), .val (.int p4), .val (.int p5), .val (.int p6), .val (.ref b1), .unset, .unset, .unset]) rfl ?_
    show Steps p.tables e below (T2.setTop (mkF m 9 #[.val (.int p1), .val (.int p2), .val (.int p3), .val (.int p4), .val (.int p5), .val (.int p6), .val (.ref b1), .unset, .unset, .unset] [])) _
    refine XS.aload X2.here hx rfl (hb hby at_9) rfl rfl ?_
    show Steps p.tables e below (T2.setTop (mkF m 11 #[.val (.int p1), .val (.int p2), .val (.int p3), .val (.int p4), .val (.int p5), .val (.int p6), .val (.ref b1), .unset, .unset, .unset] [(.ref b1)])) _
    refine st4.trans ?_
    show Steps p.tables e below (T4.setTop (mkF m 14 #[.val (.int p1), .val (.int p2), .val (.int p3), .val (.int p4), .val (.int p5), .val (.int p6), .val (.ref b1), .unset, .unset, .unset] [(.int (if (0 : Int32) = (0 : Int32) then (1 : Int32) else (0 : Int32)))])) _
    rw [← hv_v5]
    show Steps p.tables e below (T4.setTop (mkF m 14 #[.val (.int p1), .val (.int p2), .val (.int p3), .val (.int p4), .val (.int p5), .val (.int p6), .val (.ref b1), .unset, .unset, .unset] [(.int v5)])) _
    refine XS.istore X4.here hx rfl (hb hby at_14) rfl (l' := #[.val (.int p1), .val (.int p2), .val (.int p3), .val (.int p4), .val (.int p5), .val (.int p6), .val (.ref b1), .val (.int v5), .unset, .unset]) rfl ?_
    show Steps p.tables e below (T4.setTop (mkF m 16 #[.val (.int p1), .val (.int p2), .val (.int p3), .val (.int p4), .val (.int p5), .val (.int p6), .val (.ref b1), .val (.int v5), .unset, .unset] [])) _
    refine XS.aload X4.here hx rfl (hb hby at_16) rfl rfl ?_
    show Steps p.tables e below (T4.setTop (mkF m 18 #[.val (.int p1), .val (.int p2), .val (.int p3), .val (.int p4), .val (.int p5), .val (.int p6), .val (.ref b1), .val (.int v5), .unset, .unset] [(.ref b1)])) _
    refine XS.iloadN X4.here hx rfl (hb hby at_18) rfl ?_
    show Steps p.tables e below (T4.setTop (mkF m 19 #[.val (.int p1), .val (.int p2), .val (.int p3), .val (.int p4), .val (.int p5), .val (.int p6), .val (.ref b1), .val (.int v5), .unset, .unset] [(.int p2), (.ref b1)])) _
    refine XS.bipush X4.here hx rfl (hb hby at_19) ?_
    show Steps p.tables e below (T4.setTop (mkF m 21 #[.val (.int p1), .val (.int p2), .val (.int p3), .val (.int p4), .val (.int p5), .val (.int p6), .val (.ref b1), .val (.int v5), .unset, .unset] [(.int (7 : Int32)), (.int p2), (.ref b1)])) _
    refine XS.iand X4.here hx rfl (hb hby at_21) rfl ?_
    show Steps p.tables e below (T4.setTop (mkF m 22 #[.val (.int p1), .val (.int p2), .val (.int p3), .val (.int p4), .val (.int p5), .val (.int p6), .val (.ref b1), .val (.int v5), .unset, .unset] [(.int (p2 &&& (7 : Int32))), (.ref b1)])) _
    refine st6.trans ?_
    show Steps p.tables e below (T6.setTop (mkF m 25 #[.val (.int p1), .val (.int p2), .val (.int p3), .val (.int p4), .val (.int p5), .val (.int p6), .val (.ref b1), .val (.int v5), .unset, .unset] [])) _
    refine XS.iload X6.here hx rfl (hb hby at_25) rfl ?_
    show Steps p.tables e below (T6.setTop (mkF m 27 #[.val (.int p1), .val (.int p2), .val (.int p3), .val (.int p4), .val (.int p5), .val (.int p6), .val (.ref b1), .val (.int v5), .unset, .unset] [(.int v5)])) _
    refine XS.ifNo X6.here hx rfl (hb hby at_27) rfl ((if0 _ _).trans (feq hc8_27).1) ?_
    exact ktx
  obtain ⟨cq10, kq10, q10a, q10b, q10c⟩ := isOf hZ rfl Eq6
  obtain ⟨_, _, ⟨T10, L10, k10, n10⟩, -, X10, ⟨Lc10, hQ10, l10, y10, z10⟩, st10⟩ := X6.virtualBack hx (y := (⟨"com/example/structweave/structweave/wddx/PlaceRing", "isEmpty", "()Z"⟩ : MethodName)) (z := (⟨"com/example/structweave/structweave/wddx/PlaceRing", "isEmpty", "()Z"⟩ : MethodName)) hown (mvT hZ (hw _ (List.mem_of_getElem? (i := 12) rfl))) (mvT hZ (hw _ (List.mem_of_getElem? (i := 13) rfl))) (notFace_of_selects (args := #[]) (mvT hZ (hw _ (List.mem_of_getElem? (i := 15) rfl)))) (mvT hZ (hw _ (List.mem_of_getElem? (i := 15) rfl))) (mvT hZ (hw _ (List.mem_of_getElem? (i := 14) rfl))) (by decide) (backOf (W := 0) (rm3 l Z a0 hw [] b1 (0 : Int32) T6.heap n0 Z6 Fc6) hZ (hw _ (List.mem_of_getElem? (i := 16) rfl)) (hw _ (List.mem_of_getElem? (i := 2) rfl)) (by decide) (by decide)) q10a q10c (g := (mkF m 32 #[.val (.int p1), .val (.int p2), .val (.int p3), .val (.int p4), .val (.int p5), .val (.int p6), .val (.ref b1), .val (.int v5), .unset, .unset] [(.ref b1)])) rfl (by rw [hml]; rfl) (Steps.refl _) (argsL := []) (rest := []) (lenOf own_pd3 rfl) rfl (by show 2 * 0 + _ ≤ _; exact Nat.le_of_eq rfl) (hb hby at_32) (fun _ _ => ⟨rfl, rfl, (by decide : 3 + 0 ≤ _), (by decide : 11 + 0 ≤ _)⟩)
  dsimp only [Pt.U, Pt.locs, Pt.cells, Pt.slots] at X10 l10 y10 z10 st10 hQ10
  subst l10 y10 z10
  obtain ⟨rfl, Nq10, e10⟩ := hQ10
  have N10 := Fr.app N6 Nq10
  have hc11_35 : ¬ ((if (0 : Int32) = (0 : Int32) then (1 : Int32) else (0 : Int32)) = (0 : Int32)) := by decide
  obtain ⟨v12, hv_v12⟩ : ∃ z : Int32, z = (p1 &&& (3 : Int32)) := ⟨_, rfl⟩
  obtain ⟨v13, hv_v13⟩ : ∃ z : Int32, z = (p3 &&& (65535 : Int32)) := ⟨_, rfl⟩
  have go14 : own_go p e below (s₁.setTop (entryFrame m #[(.int p1), (.int p2), (.int p3), (.int p4), (.int p5), (.int p6)] maxLocals)) (T10.setTop (mkF m 56 #[.val (.int p1), .val (.int p2), .val (.int p3), .val (.int p4), .val (.int p5), .val (.int p6), .val (.ref b1), .val (.int (1 : Int32)), .val (.int v12), .val (.int v13)] [])) := by
    intro ttx ktx
    refine go9 ttx ?_
    show Steps p.tables e below (T6.setTop (mkF m 30 #[.val (.int p1), .val (.int p2), .val (.int p3), .val (.int p4), .val (.int p5), .val (.int p6), .val (.ref b1), .val (.int v5), .unset, .unset] [])) _
    refine XS.aload X6.here hx rfl (hb hby at_30) rfl rfl ?_
    show Steps p.tables e below (T6.setTop (mkF m 32 #[.val (.int p1), .val (.int p2), .val (.int p3), .val (.int p4), .val (.int p5), .val (.int p6), .val (.ref b1), .val (.int v5), .unset, .unset] [(.ref b1)])) _
    refine st10.trans ?_
    show Steps p.tables e below (T10.setTop (mkF m 35 #[.val (.int p1), .val (.int p2), .val (.int p3), .val (.int p4), .val (.int p5), .val (.int p6), .val (.ref b1), .val (.int v5), .unset, .unset] [(.int (if (0 : Int32) = (0 : Int32) then (1 : Int32) else (0 : Int32)))])) _
    refine XS.ifNo X10.here hx rfl (hb hby at_35) rfl ((if0 _ _).trans (feq hc11_35).1) ?_
    show Steps p.tables e below (T10.setTop (mkF m 38 #[.val (.int p1), .val (.int p2), .val (.int p3), .val (.int p4), .val (.int p5), .val (.int p6), .val (.ref b1), .val (.int v5), .unset, .unset] [])) _
    refine XS.iconst X10.here hx rfl (hb hby at_38) ?_
    show Steps p.tables e below (T10.setTop (mkF m 39 #[.val (.int p1), .val (.int p2), .val (.int p3), .val (.int p4), .val (.int p5), .val (.int p6), .val (.ref b1), .val (.int v5), .unset, .unset] [(.int (1 : Int32))])) _
    refine XS.goto X10.here hx rfl (pc0 := 39) (pc' := 43) rfl (hb hby at_39) (by decide) (by decide) ?_
    show Steps p.tables e below (T10.setTop (mkF m 43 #[.val (.int p1), .val (.int p2), .val (.int p3), .val (.int p4), .val (.int p5), .val (.int p6), .val (.ref b1), .val (.int v5), .unset, .unset] [(.int (1 : Int32))])) _
    refine XS.istore X10.here hx rfl (hb hby at_43) rfl (l' := #[.val (.int p1), .val (.int p2), .val (.int p3), .val (.int p4), .val (.int p5), .val (.int p6), .val (.ref b1), .val (.int (1 : Int32)), .unset, .unset]) rfl ?_
    show Steps p.tables e below (T10.setTop (mkF m 45 #[.val (.int p1), .val (.int p2), .val (.int p3), .val (.int p4), .val (.int p5), .val (.int p6), .val (.ref b1), .val (.int (1 : Int32)), .unset, .unset] [])) _
    refine XS.iloadN X10.here hx rfl (hb hby at_45) rfl ?_
    show Steps p.tables e below (T10.setTop (mkF m 46 #[.val (.int p1), .val (.int p2), .val (.int p3), .val (.int p4), .val (.int p5), .val (.int p6), .val (.ref b1), .val (.int (1 : Int32)), .unset, .unset] [(.int p1)])) _
    refine XS.iconst X10.here hx rfl (hb hby at_46) ?_
    show Steps p.tables e below (T10.setTop (mkF m 47 #[.val (.int p1), .val (.int p2), .val (.int p3), .val (.int p4), .val (.int p5), .val (.int p6), .val (.ref b1), .val (.int (1 : Int32)), .unset, .unset] [(.int (3 : Int32)), (.int p1)])) _
    refine XS.iand X10.here hx rfl (hb hby at_47) rfl ?_
    show Steps p.tables e below (T10.setTop (mkF m 48 #[.val (.int p1), .val (.int p2), .val (.int p3), .val (.int p4), .val (.int p5), .val (.int p6), .val (.ref b1), .val (.int (1 : Int32)), .unset, .unset] [(.int (p1 &&& (3 : Int32)))])) _
    rw [← hv_v12]
    show Steps p.tables e below (T10.setTop (mkF m 48 #[.val (.int p1), .val (.int p2), .val (.int p3), .val (.int p4), .val (.int p5), .val (.int p6), .val (.ref b1), .val (.int (1 : Int32)), .unset, .unset] [(.int v12)])) _
    refine XS.istore X10.here hx rfl (hb hby at_48) rfl (l' := #[.val (.int p1), .val (.int p2), .val (.int p3), .val (.int p4), .val (.int p5), .val (.int p6), .val (.ref b1), .val (.int (1 : Int32)), .val (.int v12), .unset]) rfl ?_
    show Steps p.tables e below (T10.setTop (mkF m 50 #[.val (.int p1), .val (.int p2), .val (.int p3), .val (.int p4), .val (.int p5), .val (.int p6), .val (.ref b1), .val (.int (1 : Int32)), .val (.int v12), .unset] [])) _
    refine XS.iloadN X10.here hx rfl (hb hby at_50) rfl ?_
    show Steps p.tables e below (T10.setTop (mkF m 51 #[.val (.int p1), .val (.int p2), .val (.int p3), .val (.int p4), .val (.int p5), .val (.int p6), .val (.ref b1), .val (.int (1 : Int32)), .val (.int v12), .unset] [(.int p3)])) _
    refine X10.ldcInt hx hown (mvT hZ (hw _ (List.mem_of_getElem? (i := 26) rfl))) (g := (mkF m 51 #[.val (.int p1), .val (.int p2), .val (.int p3), .val (.int p4), .val (.int p5), .val (.int p6), .val (.ref b1), .val (.int (1 : Int32)), .val (.int v12), .unset] [(.int p3)])) rfl (hb hby at_51) _ ?_
    show Steps p.tables e below (T10.setTop (mkF m 53 #[.val (.int p1), .val (.int p2), .val (.int p3), .val (.int p4), .val (.int p5), .val (.int p6), .val (.ref b1), .val (.int (1 : Int32)), .val (.int v12), .unset] [(.int (65535 : Int32)), (.int p3)])) _
    refine XS.iand X10.here hx rfl (hb hby at_53) rfl ?_
    show Steps p.tables e below (T10.setTop (mkF m 54 #[.val (.int p1), .val (.int p2), .val (.int p3), .val (.int p4), .val (.int p5), .val (.int p6), .val (.ref b1), .val (.int (1 : Int32)), .val (.int v12), .unset] [(.int (p3 &&& (65535 : Int32)))])) _
    rw [← hv_v13]
    show Steps p.tables e below (T10.setTop (mkF m 54 #[.val (.int p1), .val (.int p2), .val (.int p3), .val (.int p4), .val (.int p5), .val (.int p6), .val (.ref b1), .val (.int (1 : Int32)), .val (.int v12), .unset] [(.int v13)])) _
    refine XS.istore X10.here hx rfl (hb hby at_54) rfl (l' := #[.val (.int p1), .val (.int p2), .val (.int p3), .val (.int p4), .val (.int p5), .val (.int p6), .val (.ref b1), .val (.int (1 : Int32)), .val (.int v12), .val (.int v13)]) rfl ?_
    exact ktx
  have go15 : own_go p e below (s₁.setTop (entryFrame m #[(.int p1), (.int p2), (.int p3), (.int p4), (.int p5), (.int p6)] maxLocals)) (T10.setTop (mkF m 59 #[.val (.int p1), .val (.int p2), .val (.int p3), .val (.int p4), .val (.int p5), .val (.int p6), .val (.ref b1), .val (.int (1 : Int32)), .val (.int v12), .val (.int v13)] [(.int (1 : Int32)), (.int v12)])) := by
    intro ttx ktx
    refine go14 ttx ?_
    show Steps p.tables e below (T10.setTop (mkF m 56 #[.val (.int p1), .val (.int p2), .val (.int p3), .val (.int p4), .val (.int p5), .val (.int p6), .val (.ref b1), .val (.int (1 : Int32)), .val (.int v12), .val (.int v13)] [])) _
    refine XS.iload X10.here hx rfl (hb hby at_56) rfl ?_
    show Steps p.tables e below (T10.setTop (mkF m 58 #[.val (.int p1), .val (.int p2), .val (.int p3), .val (.int p4), .val (.int p5), .val (.int p6), .val (.ref b1), .val (.int (1 : Int32)), .val (.int v12), .val (.int v13)] [(.int v12)])) _
    refine XS.iconst X10.here hx rfl (hb hby at_58) ?_
    exact ktx
  by_cases hc16_59 : v12 < (1 : Int32)
  · have hc17_93 : v12 < (2 : Int32) := own_lt hc16_59 (by decide)
    have hc18_130 : v12 < (3 : Int32) := own_lt hc16_59 (by decide)
    obtain ⟨cq19, kq19, q19a, q19b, q19c⟩ := isOf hZ e10 Eq6
    obtain ⟨_, _, ⟨T19, L19, k19, n19⟩, -, X19, ⟨Lc19, hQ19, l19, y19, z19⟩, st19⟩ := X10.virtualBack hx (y := (⟨"com/example/structweave/structweave/wddx/PlaceRing", "makeRoom", "(I)V"⟩ : MethodName)) (z := (⟨"com/example/structweave/structweave/wddx/PlaceRing", "makeRoom", "(I)V"⟩ : MethodName)) hown (mvT hZ (hw _ (List.mem_of_getElem? (i := 19) rfl))) (mvT hZ (hw _ (List.mem_of_getElem? (i := 20) rfl))) (notFace_of_selects (args := #[]) (mvT hZ (hw _ (List.mem_of_getElem? (i := 22) rfl)))) (mvT hZ (hw _ (List.mem_of_getElem? (i := 22) rfl))) (mvT hZ (hw _ (List.mem_of_getElem? (i := 21) rfl))) (by decide) (backOf (W := 0) (rm4 l Z a0 hw [] b1 (p5 &&& (7 : Int32)) tm6 nm6 om6 (0 : Int32) T6.heap n0 Z6 Eq6 g_b1 g_tm6 ne7 Fp6 Fo6 Fc6 Vq6 rb6 (own_7 _)) hZ (hw _ (List.mem_of_getElem? (i := 23) rfl)) (hw _ (List.mem_of_getElem? (i := 2) rfl)) (by decide) (by decide)) q19a q19c (g := (mkF m 170 #[.val (.int p1), .val (.int p2), .val (.int p3), .val (.int p4), .val (.int p5), .val (.int p6), .val (.ref b1), .val (.int (1 : Int32)), .val (.int v12), .val (.int v13)] [(.int (p5 &&& (7 : Int32))), (.ref b1)])) rfl (by rw [hml]; rfl) (Steps.refl _) (argsL := [(.int (p5 &&& (7 : Int32)))]) (rest := []) (lenOf own_pd4 rfl) rfl (by show 2 * 0 + _ ≤ _; exact Nat.le_of_eq rfl) (hb hby at_170) (fun _ _ => ⟨rfl, e10, (by decide : 3 + 1 ≤ _), (by decide : 11 + 7 ≤ _)⟩)
    dsimp only [Pt.U, Pt.locs, Pt.cells, Pt.slots] at X19 l19 y19 z19 st19 hQ19
    subst l19 y19 z19
    obtain ⟨rfl, Nq19, Kq19, Eq19, tm19, nm19, om19, gq19, dq19, Fp19, Fo19, Fc19, Vq19, rb19⟩ := hQ19
    have N19 := Fr.app N10 Nq19
    have ne20 : b1 ≠ tm19 := by rcases dq19 with rfl | q; exact ne7; exact Nat.ne_of_lt (Nat.lt_of_lt_of_le Eq6.lt q)
    have g_tm19 := gq19
    have Z19 : n0 ≤ T19.heap.size := Nat.le_trans Z6 Kq19.1
    have hc21_175 : ¬ ((1 : Int32) = (0 : Int32)) := (by decide)
    have go22 : own_go p e below (s₁.setTop (entryFrame m #[(.int p1), (.int p2), (.int p3), (.int p4), (.int p5), (.int p6)] maxLocals)) (T19.setTop (mkF m 180 #[.val (.int p1), .val (.int p2), .val (.int p3), .val (.int p4), .val (.int p5), .val (.int p6), .val (.ref b1), .val (.int (1 : Int32)), .val (.int v12), .val (.int v13)] [(.ref b1)])) := by
      intro ttx ktx
      refine go15 ttx ?_
      show Steps p.tables e below (T10.setTop (mkF m 59 #[.val (.int p1), .val (.int p2), .val (.int p3), .val (.int p4), .val (.int p5), .val (.int p6), .val (.ref b1), .val (.int (1 : Int32)), .val (.int v12), .val (.int v13)] [(.int (1 : Int32)), (.int v12)])) _
      refine XS.icmpYes X10.here hx rfl (pc0 := 59) (pc' := 90) rfl (hb hby at_59) rfl (tlt hc16_59).1 (by decide) (by decide) ?_
      show Steps p.tables e below (T10.setTop (mkF m 90 #[.val (.int p1), .val (.int p2), .val (.int p3), .val (.int p4), .val (.int p5), .val (.int p6), .val (.ref b1), .val (.int (1 : Int32)), .val (.int v12), .val (.int v13)] [])) _
      refine XS.iload X10.here hx rfl (hb hby at_90) rfl ?_
      show Steps p.tables e below (T10.setTop (mkF m 92 #[.val (.int p1), .val (.int p2), .val (.int p3), .val (.int p4), .val (.int p5), .val (.int p6), .val (.ref b1), .val (.int (1 : Int32)), .val (.int v12), .val (.int v13)] [(.int v12)])) _
      refine XS.iconst X10.here hx rfl (hb hby at_92) ?_
      show Steps p.tables e below (T10.setTop (mkF m 93 #[.val (.int p1), .val (.int p2), .val (.int p3), .val (.int p4), .val (.int p5), .val (.int p6), .val (.ref b1), .val (.int (1 : Int32)), .val (.int v12), .val (.int v13)] [(.int (2 : Int32)), (.int v12)])) _
      refine XS.icmpYes X10.here hx rfl (pc0 := 93) (pc' := 127) rfl (hb hby at_93) rfl (tlt hc17_93).1 (by decide) (by decide) ?_
      show Steps p.tables e below (T10.setTop (mkF m 127 #[.val (.int p1), .val (.int p2), .val (.int p3), .val (.int p4), .val (.int p5), .val (.int p6), .val (.ref b1), .val (.int (1 : Int32)), .val (.int v12), .val (.int v13)] [])) _
      refine XS.iload X10.here hx rfl (hb hby at_127) rfl ?_
      show Steps p.tables e below (T10.setTop (mkF m 129 #[.val (.int p1), .val (.int p2), .val (.int p3), .val (.int p4), .val (.int p5), .val (.int p6), .val (.ref b1), .val (.int (1 : Int32)), .val (.int v12), .val (.int v13)] [(.int v12)])) _
      refine XS.iconst X10.here hx rfl (hb hby at_129) ?_
      show Steps p.tables e below (T10.setTop (mkF m 130 #[.val (.int p1), .val (.int p2), .val (.int p3), .val (.int p4), .val (.int p5), .val (.int p6), .val (.ref b1), .val (.int (1 : Int32)), .val (.int v12), .val (.int v13)] [(.int (3 : Int32)), (.int v12)])) _
      refine XS.icmpYes X10.here hx rfl (pc0 := 130) (pc' := 163) rfl (hb hby at_130) rfl (tlt hc18_130).1 (by decide) (by decide) ?_
      show Steps p.tables e below (T10.setTop (mkF m 163 #[.val (.int p1), .val (.int p2), .val (.int p3), .val (.int p4), .val (.int p5), .val (.int p6), .val (.ref b1), .val (.int (1 : Int32)), .val (.int v12), .val (.int v13)] [])) _
      refine XS.aload X10.here hx rfl (hb hby at_163) rfl rfl ?_
      show Steps p.tables e below (T10.setTop (mkF m 165 #[.val (.int p1), .val (.int p2), .val (.int p3), .val (.int p4), .val (.int p5), .val (.int p6), .val (.ref b1), .val (.int (1 : Int32)), .val (.int v12), .val (.int v13)] [(.ref b1)])) _
      refine XS.iload X10.here hx rfl (hb hby at_165) rfl ?_
      show Steps p.tables e below (T10.setTop (mkF m 167 #[.val (.int p1), .val (.int p2), .val (.int p3), .val (.int p4), .val (.int p5), .val (.int p6), .val (.ref b1), .val (.int (1 : Int32)), .val (.int v12), .val (.int v13)] [(.int p5), (.ref b1)])) _
      refine XS.bipush X10.here hx rfl (hb hby at_167) ?_
      show Steps p.tables e below (T10.setTop (mkF m 169 #[.val (.int p1), .val (.int p2), .val (.int p3), .val (.int p4), .val (.int p5), .val (.int p6), .val (.ref b1), .val (.int (1 : Int32)), .val (.int v12), .val (.int v13)] [(.int (7 : Int32)), (.int p5), (.ref b1)])) _
      refine XS.iand X10.here hx rfl (hb hby at_169) rfl ?_
      show Steps p.tables e below (T10.setTop (mkF m 170 #[.val (.int p1), .val (.int p2), .val (.int p3), .val (.int p4), .val (.int p5), .val (.int p6), .val (.ref b1), .val (.int (1 : Int32)), .val (.int v12), .val (.int v13)] [(.int (p5 &&& (7 : Int32))), (.ref b1)])) _
      refine st19.trans ?_
      show Steps p.tables e below (T19.setTop (mkF m 173 #[.val (.int p1), .val (.int p2), .val (.int p3), .val (.int p4), .val (.int p5), .val (.int p6), .val (.ref b1), .val (.int (1 : Int32)), .val (.int v12), .val (.int v13)] [])) _
      refine XS.iload X19.here hx rfl (hb hby at_173) rfl ?_
      show Steps p.tables e below (T19.setTop (mkF m 175 #[.val (.int p1), .val (.int p2), .val (.int p3), .val (.int p4), .val (.int p5), .val (.int p6), .val (.ref b1), .val (.int (1 : Int32)), .val (.int v12), .val (.int v13)] [(.int (1 : Int32))])) _
      refine XS.ifNo X19.here hx rfl (hb hby at_175) rfl ((if0 _ _).trans (feq hc21_175).1) ?_
      show Steps p.tables e below (T19.setTop (mkF m 178 #[.val (.int p1), .val (.int p2), .val (.int p3), .val (.int p4), .val (.int p5), .val (.int p6), .val (.ref b1), .val (.int (1 : Int32)), .val (.int v12), .val (.int v13)] [])) _
      refine XS.aload X19.here hx rfl (hb hby at_178) rfl rfl ?_
      exact ktx
    obtain ⟨cq23, kq23, q23a, q23b, q23c⟩ := isOf hZ rfl Eq19
    obtain ⟨_, _, ⟨T23, L23, k23, n23⟩, -, X23, ⟨Lc23, hQ23, l23, y23, z23⟩, st23⟩ := X19.virtualBack hx (y := (⟨"com/example/structweave/structweave/wddx/PlaceRing", "isEmpty", "()Z"⟩ : MethodName)) (z := (⟨"com/example/structweave/structweave/wddx/PlaceRing", "isEmpty", "()Z"⟩ : MethodName)) hown (mvT hZ (hw _ (List.mem_of_getElem? (i := 12) rfl))) (mvT hZ (hw _ (List.mem_of_getElem? (i := 13) rfl))) (notFace_of_selects (args := #[]) (mvT hZ (hw _ (List.mem_of_getElem? (i := 15) rfl)))) (mvT hZ (hw _ (List.mem_of_getElem? (i := 15) rfl))) (mvT hZ (hw _ (List.mem_of_getElem? (i := 14) rfl))) (by decide) (backOf (W := 0) (rm3 l Z a0 hw [] b1 (0 : Int32) T19.heap n0 Z19 Fc19) hZ (hw _ (List.mem_of_getElem? (i := 16) rfl)) (hw _ (List.mem_of_getElem? (i := 2) rfl)) (by decide) (by decide)) q23a q23c (g := (mkF m 180 #[.val (.int p1), .val (.int p2), .val (.int p3), .val (.int p4), .val (.int p5), .val (.int p6), .val (.ref b1), .val (.int (1 : Int32)), .val (.int v12), .val (.int v13)] [(.ref b1)])) rfl (by rw [hml]; rfl) (Steps.refl _) (argsL := []) (rest := []) (lenOf own_pd3 rfl) rfl (by show 2 * 0 + _ ≤ _; exact Nat.le_of_eq rfl) (hb hby at_180) (fun _ _ => ⟨rfl, rfl, (by decide : 4 + 0 ≤ _), (by decide : 18 + 0 ≤ _)⟩)
    dsimp only [Pt.U, Pt.locs, Pt.cells, Pt.slots] at X23 l23 y23 z23 st23 hQ23
    subst l23 y23 z23
    obtain ⟨rfl, Nq23, e23⟩ := hQ23
    have N23 := Fr.app N19 Nq23
    have hc24_185 : v12 = (0 : Int32) := by rw [hv_v12] at hc16_59 ⊢; exact own_z hc16_59
    have hc25_193 : (if (0 : Int32) = (0 : Int32) then (1 : Int32) else (0 : Int32)) = (1 : Int32) := by decide
    have go26 : own_go p e below (s₁.setTop (entryFrame m #[(.int p1), (.int p2), (.int p3), (.int p4), (.int p5), (.int p6)] maxLocals)) (T23.setTop (mkF m 205 #[.val (.int p1), .val (.int p2), .val (.int p3), .val (.int p4), .val (.int p5), .val (.int p6), .val (.ref b1), .val (.int (1 : Int32)), .val (.int v12), .val (.int v13)] [(.int (1 : Int32))])) := by
      intro ttx ktx
      refine go22 ttx ?_
      show Steps p.tables e below (T19.setTop (mkF m 180 #[.val (.int p1), .val (.int p2), .val (.int p3), .val (.int p4), .val (.int p5), .val (.int p6), .val (.ref b1), .val (.int (1 : Int32)), .val (.int v12), .val (.int v13)] [(.ref b1)])) _
      refine st23.trans ?_
      show Steps p.tables e below (T23.setTop (mkF m 183 #[.val (.int p1), .val (.int p2), .val (.int p3), .val (.int p4), .val (.int p5), .val (.int p6), .val (.ref b1), .val (.int (1 : Int32)), .val (.int v12), .val (.int v13)] [(.int (if (0 : Int32) = (0 : Int32) then (1 : Int32) else (0 : Int32)))])) _
      refine XS.iload X23.here hx rfl (hb hby at_183) rfl ?_
      show Steps p.tables e below (T23.setTop (mkF m 185 #[.val (.int p1), .val (.int p2), .val (.int p3), .val (.int p4), .val (.int p5), .val (.int p6), .val (.ref b1), .val (.int (1 : Int32)), .val (.int v12), .val (.int v13)] [(.int v12), (.int (if (0 : Int32) = (0 : Int32) then (1 : Int32) else (0 : Int32)))])) _
      refine XS.ifNo X23.here hx rfl (hb hby at_185) rfl ((if0 _ _).trans (teq hc24_185).2) ?_
      show Steps p.tables e below (T23.setTop (mkF m 188 #[.val (.int p1), .val (.int p2), .val (.int p3), .val (.int p4), .val (.int p5), .val (.int p6), .val (.ref b1), .val (.int (1 : Int32)), .val (.int v12), .val (.int v13)] [(.int (if (0 : Int32) = (0 : Int32) then (1 : Int32) else (0 : Int32)))])) _
      refine XS.iconst X23.here hx rfl (hb hby at_188) ?_
      show Steps p.tables e below (T23.setTop (mkF m 189 #[.val (.int p1), .val (.int p2), .val (.int p3), .val (.int p4), .val (.int p5), .val (.int p6), .val (.ref b1), .val (.int (1 : Int32)), .val (.int v12), .val (.int v13)] [(.int (1 : Int32)), (.int (if (0 : Int32) = (0 : Int32) then (1 : Int32) else (0 : Int32)))])) _
      refine XS.goto X23.here hx rfl (pc0 := 189) (pc' := 193) rfl (hb hby at_189) (by decide) (by decide) ?_
      show Steps p.tables e below (T23.setTop (mkF m 193 #[.val (.int p1), .val (.int p2), .val (.int p3), .val (.int p4), .val (.int p5), .val (.int p6), .val (.ref b1), .val (.int (1 : Int32)), .val (.int v12), .val (.int v13)] [(.int (1 : Int32)), (.int (if (0 : Int32) = (0 : Int32) then (1 : Int32) else (0 : Int32)))])) _
      refine XS.icmpNo X23.here hx rfl (hb hby at_193) rfl (teq hc25_193).2 ?_
      show Steps p.tables e below (T23.setTop (mkF m 196 #[.val (.int p1), .val (.int p2), .val (.int p3), .val (.int p4), .val (.int p5), .val (.int p6), .val (.ref b1), .val (.int (1 : Int32)), .val (.int v12), .val (.int v13)] [])) _
      refine XS.iconst X23.here hx rfl (hb hby at_196) ?_
      show Steps p.tables e below (T23.setTop (mkF m 197 #[.val (.int p1), .val (.int p2), .val (.int p3), .val (.int p4), .val (.int p5), .val (.int p6), .val (.ref b1), .val (.int (1 : Int32)), .val (.int v12), .val (.int v13)] [(.int (1 : Int32))])) _
      refine XS.goto X23.here hx rfl (pc0 := 197) (pc' := 201) rfl (hb hby at_197) (by decide) (by decide) ?_
      show Steps p.tables e below (T23.setTop (mkF m 201 #[.val (.int p1), .val (.int p2), .val (.int p3), .val (.int p4), .val (.int p5), .val (.int p6), .val (.ref b1), .val (.int (1 : Int32)), .val (.int v12), .val (.int v13)] [(.int (1 : Int32))])) _
      refine XS.istore X23.here hx rfl (hb hby at_201) rfl (l' := #[.val (.int p1), .val (.int p2), .val (.int p3), .val (.int p4), .val (.int p5), .val (.int p6), .val (.ref b1), .val (.int (1 : Int32)), .val (.int v12), .val (.int v13)]) rfl ?_
      show Steps p.tables e below (T23.setTop (mkF m 203 #[.val (.int p1), .val (.int p2), .val (.int p3), .val (.int p4), .val (.int p5), .val (.int p6), .val (.ref b1), .val (.int (1 : Int32)), .val (.int v12), .val (.int v13)] [])) _
      refine XS.iload X23.here hx rfl (hb hby at_203) rfl ?_
      exact ktx
    obtain ⟨fs, hr, hrun, hended, hW, hsame⟩ := X23.leave (v := some (.int (1 : Int32))) (fun h => by rw [Bd.returns] at h; cases h)
    refine ⟨_, _, go26 _ ?_, hrun, hended, _, _, rfl, ?_, ⟨_, rfl⟩, hW, hsame.mono (by decide) (by decide)⟩
    · exact retN X23 hx (t := .boolean) Bd.returns (by simp) (hb hby at_205) hr
    · show Q0 Z p1 p2 p3 p4 p5 p6 h0 n0 _ T23.heap _
      rw [e23]
      exact ⟨rfl, N23⟩
  · obtain ⟨cq27, kq27, q27a, q27b, q27c⟩ := isOf hZ e10 Eq6
    obtain ⟨_, _, ⟨T27, L27, k27, n27⟩, -, X27, ⟨Lc27, hQ27, l27, y27, z27⟩, st27⟩ := X10.virtualBack hx (y := (⟨"com/example/structweave/structweave/wddx/PlaceRing", "note", "(II)V"⟩ : MethodName)) (z := (⟨"com/example/structweave/structweave/wddx/PlaceRing", "note", "(II)V"⟩ : MethodName)) hown (mvT hZ (hw _ (List.mem_of_getElem? (i := 27) rfl))) (mvT hZ (hw _ (List.mem_of_getElem? (i := 28) rfl))) (notFace_of_selects (args := #[]) (mvT hZ (hw _ (List.mem_of_getElem? (i := 30) rfl)))) (mvT hZ (hw _ (List.mem_of_getElem? (i := 30) rfl))) (mvT hZ (hw _ (List.mem_of_getElem? (i := 29) rfl))) (by decide) (backOf (W := 0) (rm5 l Z a0 hw [] b1 v13 p4 tm6 nm6 om6 (0 : Int32) T6.heap n0 Z6 Eq6 g_b1 g_tm6 ne7 Fp6 Fo6 Fc6 Vq6 rb6) hZ (hw _ (List.mem_of_getElem? (i := 31) rfl)) (hw _ (List.mem_of_getElem? (i := 2) rfl)) (by decide) (by decide)) q27a q27c (g := (mkF m 67 #[.val (.int p1), .val (.int p2), .val (.int p3), .val (.int p4), .val (.int p5), .val (.int p6), .val (.ref b1), .val (.int (1 : Int32)), .val (.int v12), .val (.int v13)] [(.int p4), (.int v13), (.ref b1)])) rfl (by rw [hml]; rfl) (Steps.refl _) (argsL := [(.int v13), (.int p4)]) (rest := []) (lenOf own_pd5 rfl) rfl (by show 2 * 0 + _ ≤ _; exact Nat.le_of_eq rfl) (hb hby at_67) (fun _ _ => ⟨rfl, e10, (by decide : 3 + 0 ≤ _), (by decide : 11 + 0 ≤ _)⟩)
    dsimp only [Pt.U, Pt.locs, Pt.cells, Pt.slots] at X27 l27 y27 z27 st27 hQ27
    subst l27 y27 z27
    obtain ⟨rfl, Nq27, Kq27, Eq27, Fp27, Vq27, o27, kk27, Fo27, Fc27, rb27, ps27⟩ := hQ27
    have N27 := Fr.app N10 Nq27
    have Z27 : n0 ≤ T27.heap.size := Nat.le_trans Z6 Kq27.1
    have hc28_72 : ¬ ((1 : Int32) = (0 : Int32)) := (by decide)
    obtain ⟨cq29, kq29, q29a, q29b, q29c⟩ := isOf hZ rfl Eq27
    obtain ⟨_, _, ⟨T29, L29, k29, n29⟩, -, X29, ⟨Lc29, hQ29, l29, y29, z29⟩, st29⟩ := X27.virtualBack hx (y := (⟨"com/example/structweave/structweave/wddx/PlaceRing", "isEmpty", "()Z"⟩ : MethodName)) (z := (⟨"com/example/structweave/structweave/wddx/PlaceRing", "isEmpty", "()Z"⟩ : MethodName)) hown (mvT hZ (hw _ (List.mem_of_getElem? (i := 12) rfl))) (mvT hZ (hw _ (List.mem_of_getElem? (i := 13) rfl))) (notFace_of_selects (args := #[]) (mvT hZ (hw _ (List.mem_of_getElem? (i := 15) rfl)))) (mvT hZ (hw _ (List.mem_of_getElem? (i := 15) rfl))) (mvT hZ (hw _ (List.mem_of_getElem? (i := 14) rfl))) (by decide) (backOf (W := 0) (rm3 l Z a0 hw [] b1 kk27 T27.heap n0 Z27 Fc27) hZ (hw _ (List.mem_of_getElem? (i := 16) rfl)) (hw _ (List.mem_of_getElem? (i := 2) rfl)) (by decide) (by decide)) q29a q29c (g := (mkF m 77 #[.val (.int p1), .val (.int p2), .val (.int p3), .val (.int p4), .val (.int p5), .val (.int p6), .val (.ref b1), .val (.int (1 : Int32)), .val (.int v12), .val (.int v13)] [(.ref b1)])) rfl (by rw [hml]; rfl) (Steps.refl _) (argsL := []) (rest := []) (lenOf own_pd3 rfl) rfl (by show 2 * 0 + _ ≤ _; exact Nat.le_of_eq rfl) (hb hby at_77) (fun _ _ => ⟨rfl, rfl, (by decide : 3 + 0 ≤ _), (by decide : 11 + 0 ≤ _)⟩)
    dsimp only [Pt.U, Pt.locs, Pt.cells, Pt.slots] at X29 l29 y29 z29 st29 hQ29
    subst l29 y29 z29
    obtain ⟨rfl, Nq29, e29⟩ := hQ29
    have N29 := Fr.app N27 Nq29
    have hc30_80 : (if kk27 = (0 : Int32) then (1 : Int32) else (0 : Int32)) = (0 : Int32) := by rw [if_neg (own_p0 ps27)]
    have go31 : own_go p e below (s₁.setTop (entryFrame m #[(.int p1), (.int p2), (.int p3), (.int p4), (.int p5), (.int p6)] maxLocals)) (T29.setTop (mkF m 93 #[.val (.int p1), .val (.int p2), .val (.int p3), .val (.int p4), .val (.int p5), .val (.int p6), .val (.ref b1), .val (.int (1 : Int32)), .val (.int v12), .val (.int v13)] [(.int (2 : Int32)), (.int v12)])) := by
      intro ttx ktx
      refine go15 ttx ?_
      show Steps p.tables e below (T10.setTop (mkF m 59 #[.val (.int p1), .val (.int p2), .val (.int p3), .val (.int p4), .val (.int p5), .val (.int p6), .val (.ref b1), .val (.int (1 : Int32)), .val (.int v12), .val (.int v13)] [(.int (1 : Int32)), (.int v12)])) _
      refine XS.icmpNo X10.here hx rfl (hb hby at_59) rfl (flt hc16_59).1 ?_
      show Steps p.tables e below (T10.setTop (mkF m 62 #[.val (.int p1), .val (.int p2), .val (.int p3), .val (.int p4), .val (.int p5), .val (.int p6), .val (.ref b1), .val (.int (1 : Int32)), .val (.int v12), .val (.int v13)] [])) _
      refine XS.aload X10.here hx rfl (hb hby at_62) rfl rfl ?_
      show Steps p.tables e below (T10.setTop (mkF m 64 #[.val (.int p1), .val (.int p2), .val (.int p3), .val (.int p4), .val (.int p5), .val (.int p6), .val (.ref b1), .val (.int (1 : Int32)), .val (.int v12), .val (.int v13)] [(.ref b1)])) _
      refine XS.iload X10.here hx rfl (hb hby at_64) rfl ?_
      show Steps p.tables e below (T10.setTop (mkF m 66 #[.val (.int p1), .val (.int p2), .val (.int p3), .val (.int p4), .val (.int p5), .val (.int p6), .val (.ref b1), .val (.int (1 : Int32)), .val (.int v12), .val (.int v13)] [(.int v13), (.ref b1)])) _
      refine XS.iloadN X10.here hx rfl (hb hby at_66) rfl ?_
      show Steps p.tables e below (T10.setTop (mkF m 67 #[.val (.int p1), .val (.int p2), .val (.int p3), .val (.int p4), .val (.int p5), .val (.int p6), .val (.ref b1), .val (.int (1 : Int32)), .val (.int v12), .val (.int v13)] [(.int p4), (.int v13), (.ref b1)])) _
      refine st27.trans ?_
      show Steps p.tables e below (T27.setTop (mkF m 70 #[.val (.int p1), .val (.int p2), .val (.int p3), .val (.int p4), .val (.int p5), .val (.int p6), .val (.ref b1), .val (.int (1 : Int32)), .val (.int v12), .val (.int v13)] [])) _
      refine XS.iload X27.here hx rfl (hb hby at_70) rfl ?_
      show Steps p.tables e below (T27.setTop (mkF m 72 #[.val (.int p1), .val (.int p2), .val (.int p3), .val (.int p4), .val (.int p5), .val (.int p6), .val (.ref b1), .val (.int (1 : Int32)), .val (.int v12), .val (.int v13)] [(.int (1 : Int32))])) _
      refine XS.ifNo X27.here hx rfl (hb hby at_72) rfl ((if0 _ _).trans (feq hc28_72).1) ?_
      show Steps p.tables e below (T27.setTop (mkF m 75 #[.val (.int p1), .val (.int p2), .val (.int p3), .val (.int p4), .val (.int p5), .val (.int p6), .val (.ref b1), .val (.int (1 : Int32)), .val (.int v12), .val (.int v13)] [])) _
      refine XS.aload X27.here hx rfl (hb hby at_75) rfl rfl ?_
      show Steps p.tables e below (T27.setTop (mkF m 77 #[.val (.int p1), .val (.int p2), .val (.int p3), .val (.int p4), .val (.int p5), .val (.int p6), .val (.ref b1), .val (.int (1 : Int32)), .val (.int v12), .val (.int v13)] [(.ref b1)])) _
      refine st29.trans ?_
      show Steps p.tables e below (T29.setTop (mkF m 80 #[.val (.int p1), .val (.int p2), .val (.int p3), .val (.int p4), .val (.int p5), .val (.int p6), .val (.ref b1), .val (.int (1 : Int32)), .val (.int v12), .val (.int v13)] [(.int (if kk27 = (0 : Int32) then (1 : Int32) else (0 : Int32)))])) _
      refine XS.ifNo X29.here hx rfl (hb hby at_80) rfl ((if0 _ _).trans (teq hc30_80).2) ?_
      show Steps p.tables e below (T29.setTop (mkF m 83 #[.val (.int p1), .val (.int p2), .val (.int p3), .val (.int p4), .val (.int p5), .val (.int p6), .val (.ref b1), .val (.int (1 : Int32)), .val (.int v12), .val (.int v13)] [])) _
      refine XS.iconst X29.here hx rfl (hb hby at_83) ?_
      show Steps p.tables e below (T29.setTop (mkF m 84 #[.val (.int p1), .val (.int p2), .val (.int p3), .val (.int p4), .val (.int p5), .val (.int p6), .val (.ref b1), .val (.int (1 : Int32)), .val (.int v12), .val (.int v13)] [(.int (1 : Int32))])) _
      refine XS.goto X29.here hx rfl (pc0 := 84) (pc' := 88) rfl (hb hby at_84) (by decide) (by decide) ?_
      show Steps p.tables e below (T29.setTop (mkF m 88 #[.val (.int p1), .val (.int p2), .val (.int p3), .val (.int p4), .val (.int p5), .val (.int p6), .val (.ref b1), .val (.int (1 : Int32)), .val (.int v12), .val (.int v13)] [(.int (1 : Int32))])) _
      refine XS.istore X29.here hx rfl (hb hby at_88) rfl (l' := #[.val (.int p1), .val (.int p2), .val (.int p3), .val (.int p4), .val (.int p5), .val (.int p6), .val (.ref b1), .val (.int (1 : Int32)), .val (.int v12), .val (.int v13)]) rfl ?_
      show Steps p.tables e below (T29.setTop (mkF m 90 #[.val (.int p1), .val (.int p2), .val (.int p3), .val (.int p4), .val (.int p5), .val (.int p6), .val (.ref b1), .val (.int (1 : Int32)), .val (.int v12), .val (.int v13)] [])) _
      refine XS.iload X29.here hx rfl (hb hby at_90) rfl ?_
      show Steps p.tables e below (T29.setTop (mkF m 92 #[.val (.int p1), .val (.int p2), .val (.int p3), .val (.int p4), .val (.int p5), .val (.int p6), .val (.ref b1), .val (.int (1 : Int32)), .val (.int v12), .val (.int v13)] [(.int v12)])) _
      refine XS.iconst X29.here hx rfl (hb hby at_92) ?_
      exact ktx
    by_cases hc32_93 : v12 < (2 : Int32)
    · have hc33_130 : v12 < (3 : Int32) := own_lt hc32_93 (by decide)
      obtain ⟨cq34, kq34, q34a, q34b, q34c⟩ := isOf hZ e29 Eq27
      obtain ⟨_, _, ⟨T34, L34, k34, n34⟩, -, X34, ⟨Lc34, hQ34, l34, y34, z34⟩, st34⟩ := X29.virtualBack hx (y := (⟨"com/example/structweave/structweave/wddx/PlaceRing", "makeRoom", "(I)V"⟩ : MethodName)) (z := (⟨"com/example/structweave/structweave/wddx/PlaceRing", "makeRoom", "(I)V"⟩ : MethodName)) hown (mvT hZ (hw _ (List.mem_of_getElem? (i := 19) rfl))) (mvT hZ (hw _ (List.mem_of_getElem? (i := 20) rfl))) (notFace_of_selects (args := #[]) (mvT hZ (hw _ (List.mem_of_getElem? (i := 22) rfl)))) (mvT hZ (hw _ (List.mem_of_getElem? (i := 22) rfl))) (mvT hZ (hw _ (List.mem_of_getElem? (i := 21) rfl))) (by decide) (backOf (W := 0) (rm4 l Z a0 hw [] b1 (p5 &&& (7 : Int32)) tm6 nm6 o27 kk27 T27.heap n0 Z27 Eq27 g_b1 g_tm6 ne7 Fp27 Fo27 Fc27 Vq27 rb27 (own_7 _)) hZ (hw _ (List.mem_of_getElem? (i := 23) rfl)) (hw _ (List.mem_of_getElem? (i := 2) rfl)) (by decide) (by decide)) q34a q34c (g := (mkF m 170 #[.val (.int p1), .val (.int p2), .val (.int p3), .val (.int p4), .val (.int p5), .val (.int p6), .val (.ref b1), .val (.int (1 : Int32)), .val (.int v12), .val (.int v13)] [(.int (p5 &&& (7 : Int32))), (.ref b1)])) rfl (by rw [hml]; rfl) (Steps.refl _) (argsL := [(.int (p5 &&& (7 : Int32)))]) (rest := []) (lenOf own_pd4 rfl) rfl (by show 2 * 0 + _ ≤ _; exact Nat.le_of_eq rfl) (hb hby at_170) (fun _ _ => ⟨rfl, e29, (by decide : 3 + 1 ≤ _), (by decide : 11 + 7 ≤ _)⟩)
      dsimp only [Pt.U, Pt.locs, Pt.cells, Pt.slots] at X34 l34 y34 z34 st34 hQ34
      subst l34 y34 z34
      obtain ⟨rfl, Nq34, Kq34, Eq34, tm34, nm34, om34, gq34, dq34, Fp34, Fo34, Fc34, Vq34, rb34⟩ := hQ34
      have N34 := Fr.app N29 Nq34
      have ne35 : b1 ≠ tm34 := by rcases dq34 with rfl | q; exact ne7; exact Nat.ne_of_lt (Nat.lt_of_lt_of_le Eq27.lt q)
      have g_tm34 := gq34
      have Z34 : n0 ≤ T34.heap.size := Nat.le_trans Z27 Kq34.1
      have hc36_175 : ¬ ((1 : Int32) = (0 : Int32)) := (by decide)
      obtain ⟨cq37, kq37, q37a, q37b, q37c⟩ := isOf hZ rfl Eq34
      obtain ⟨_, _, ⟨T37, L37, k37, n37⟩, -, X37, ⟨Lc37, hQ37, l37, y37, z37⟩, st37⟩ := X34.virtualBack hx (y := (⟨"com/example/structweave/structweave/wddx/PlaceRing", "isEmpty", "()Z"⟩ : MethodName)) (z := (⟨"com/example/structweave/structweave/wddx/PlaceRing", "isEmpty", "()Z"⟩ : MethodName)) hown (mvT hZ (hw _ (List.mem_of_getElem? (i := 12) rfl))) (mvT hZ (hw _ (List.mem_of_getElem? (i := 13) rfl))) (notFace_of_selects (args := #[]) (mvT hZ (hw _ (List.mem_of_getElem? (i := 15) rfl)))) (mvT hZ (hw _ (List.mem_of_getElem? (i := 15) rfl))) (mvT hZ (hw _ (List.mem_of_getElem? (i := 14) rfl))) (by decide) (backOf (W := 0) (rm3 l Z a0 hw [] b1 kk27 T34.heap n0 Z34 Fc34) hZ (hw _ (List.mem_of_getElem? (i := 16) rfl)) (hw _ (List.mem_of_getElem? (i := 2) rfl)) (by decide) (by decide)) q37a q37c (g := (mkF m 180 #[.val (.int p1), .val (.int p2), .val (.int p3), .val (.int p4), .val (.int p5), .val (.int p6), .val (.ref b1), .val (.int (1 : Int32)), .val (.int v12), .val (.int v13)] [(.ref b1)])) rfl (by rw [hml]; rfl) (Steps.refl _) (argsL := []) (rest := []) (lenOf own_pd3 rfl) rfl (by show 2 * 0 + _ ≤ _; exact Nat.le_of_eq rfl) (hb hby at_180) (fun _ _ => ⟨rfl, rfl, (by decide : 4 + 0 ≤ _), (by decide : 18 + 0 ≤ _)⟩)
      dsimp only [Pt.U, Pt.locs, Pt.cells, Pt.slots] at X37 l37 y37 z37 st37 hQ37
      subst l37 y37 z37
      obtain ⟨rfl, Nq37, e37⟩ := hQ37
      have N37 := Fr.app N34 Nq37
      have hc38_185 : ¬ (v12 = (0 : Int32)) := own_nz1 hc16_59
      have go39 : own_go p e below (s₁.setTop (entryFrame m #[(.int p1), (.int p2), (.int p3), (.int p4), (.int p5), (.int p6)] maxLocals)) (T37.setTop (mkF m 192 #[.val (.int p1), .val (.int p2), .val (.int p3), .val (.int p4), .val (.int p5), .val (.int p6), .val (.ref b1), .val (.int (1 : Int32)), .val (.int v12), .val (.int v13)] [(.int (if kk27 = (0 : Int32) then (1 : Int32) else (0 : Int32)))])) := by
        intro ttx ktx
        refine go31 ttx ?_
        show Steps p.tables e below (T29.setTop (mkF m 93 #[.val (.int p1), .val (.int p2), .val (.int p3), .val (.int p4), .val (.int p5), .val (.int p6), .val (.ref b1), .val (.int (1 : Int32)), .val (.int v12), .val (.int v13)] [(.int (2 : Int32)), (.int v12)])) _
        refine XS.icmpYes X29.here hx rfl (pc0 := 93) (pc' := 127) rfl (hb hby at_93) rfl (tlt hc32_93).1 (by decide) (by decide) ?_
        show Steps p.tables e below (T29.setTop (mkF m 127 #[.val (.int p1), .val (.int p2), .val (.int p3), .val (.int p4), .val (.int p5), .val (.int p6), .val (.ref b1), .val (.int (1 : Int32)), .val (.int v12), .val (.int v13)] [])) _
        refine XS.iload X29.here hx rfl (hb hby at_127) rfl ?_
        show Steps p.tables e below (T29.setTop (mkF m 129 #[.val (.int p1), .val (.int p2), .val (.int p3), .val (.int p4), .val (.int p5), .val (.int p6), .val (.ref b1), .val (.int (1 : Int32)), .val (.int v12), .val (.int v13)] [(.int v12)])) _
        refine XS.iconst X29.here hx rfl (hb hby at_129) ?_
        show Steps p.tables e below (T29.setTop (mkF m 130 #[.val (.int p1), .val (.int p2), .val (.int p3), .val (.int p4), .val (.int p5), .val (.int p6), .val (.ref b1), .val (.int (1 : Int32)), .val (.int v12), .val (.int v13)] [(.int (3 : Int32)), (.int v12)])) _
        refine XS.icmpYes X29.here hx rfl (pc0 := 130) (pc' := 163) rfl (hb hby at_130) rfl (tlt hc33_130).1 (by decide) (by decide) ?_
        show Steps p.tables e below (T29.setTop (mkF m 163 #[.val (.int p1), .val (.int p2), .val (.int p3), .val (.int p4), .val (.int p5), .val (.int p6), .val (.ref b1), .val (.int (1 : Int32)), .val (.int v12), .val (.int v13)] [])) _
        refine XS.aload X29.here hx rfl (hb hby at_163) rfl rfl ?_
        show Steps p.tables e below (T29.setTop (mkF m 165 #[.val (.int p1), .val (.int p2), .val (.int p3), .val (.int p4), .val (.int p5), .val (.int p6), .val (.ref b1), .val (.int (1 : Int32)), .val (.int v12), .val (.int v13)] [(.ref b1)])) _
        refine XS.iload X29.here hx rfl (hb hby at_165) rfl ?_
        show Steps p.tables e below (T29.setTop (mkF m 167 #[.val (.int p1), .val (.int p2), .val (.int p3), .val (.int p4), .val (.int p5), .val (.int p6), .val (.ref b1), .val (.int (1 : Int32)), .val (.int v12), .val (.int v13)] [(.int p5), (.ref b1)])) _
        refine XS.bipush X29.here hx rfl (hb hby at_167) ?_
        show Steps p.tables e below (T29.setTop (mkF m 169 #[.val (.int p1), .val (.int p2), .val (.int p3), .val (.int p4), .val (.int p5), .val (.int p6), .val (.ref b1), .val (.int (1 : Int32)), .val (.int v12), .val (.int v13)] [(.int (7 : Int32)), (.int p5), (.ref b1)])) _
        refine XS.iand X29.here hx rfl (hb hby at_169) rfl ?_
        show Steps p.tables e below (T29.setTop (mkF m 170 #[.val (.int p1), .val (.int p2), .val (.int p3), .val (.int p4), .val (.int p5), .val (.int p6), .val (.ref b1), .val (.int (1 : Int32)), .val (.int v12), .val (.int v13)] [(.int (p5 &&& (7 : Int32))), (.ref b1)])) _
        refine st34.trans ?_
        show Steps p.tables e below (T34.setTop (mkF m 173 #[.val (.int p1), .val (.int p2), .val (.int p3), .val (.int p4), .val (.int p5), .val (.int p6), .val (.ref b1), .val (.int (1 : Int32)), .val (.int v12), .val (.int v13)] [])) _
        refine XS.iload X34.here hx rfl (hb hby at_173) rfl ?_
        show Steps p.tables e below (T34.setTop (mkF m 175 #[.val (.int p1), .val (.int p2), .val (.int p3), .val (.int p4), .val (.int p5), .val (.int p6), .val (.ref b1), .val (.int (1 : Int32)), .val (.int v12), .val (.int v13)] [(.int (1 : Int32))])) _
        refine XS.ifNo X34.here hx rfl (hb hby at_175) rfl ((if0 _ _).trans (feq hc36_175).1) ?_
        show Steps p.tables e below (T34.setTop (mkF m 178 #[.val (.int p1), .val (.int p2), .val (.int p3), .val (.int p4), .val (.int p5), .val (.int p6), .val (.ref b1), .val (.int (1 : Int32)), .val (.int v12), .val (.int v13)] [])) _
        refine XS.aload X34.here hx rfl (hb hby at_178) rfl rfl ?_
        show Steps p.tables e below (T34.setTop (mkF m 180 #[.val (.int p1), .val (.int p2), .val (.int p3), .val (.int p4), .val (.int p5), .val (.int p6), .val (.ref b1), .val (.int (1 : Int32)), .val (.int v12), .val (.int v13)] [(.ref b1)])) _
        refine st37.trans ?_
        show Steps p.tables e below (T37.setTop (mkF m 183 #[.val (.int p1), .val (.int p2), .val (.int p3), .val (.int p4), .val (.int p5), .val (.int p6), .val (.ref b1), .val (.int (1 : Int32)), .val (.int v12), .val (.int v13)] [(.int (if kk27 = (0 : Int32) then (1 : Int32) else (0 : Int32)))])) _
        refine XS.iload X37.here hx rfl (hb hby at_183) rfl ?_
        show Steps p.tables e below (T37.setTop (mkF m 185 #[.val (.int p1), .val (.int p2), .val (.int p3), .val (.int p4), .val (.int p5), .val (.int p6), .val (.ref b1), .val (.int (1 : Int32)), .val (.int v12), .val (.int v13)] [(.int v12), (.int (if kk27 = (0 : Int32) then (1 : Int32) else (0 : Int32)))])) _
        refine XS.ifYes X37.here hx rfl (pc0 := 185) (pc' := 192) rfl (hb hby at_185) rfl ((if0 _ _).trans (feq hc38_185).2) (by decide) (by decide) ?_
        exact ktx
      have hc40_193 : (if kk27 = (0 : Int32) then (1 : Int32) else (0 : Int32)) = (0 : Int32) := by rw [if_neg (own_p0 ps27)]
      have go41 : own_go p e below (s₁.setTop (entryFrame m #[(.int p1), (.int p2), (.int p3), (.int p4), (.int p5), (.int p6)] maxLocals)) (T37.setTop (mkF m 205 #[.val (.int p1), .val (.int p2), .val (.int p3), .val (.int p4), .val (.int p5), .val (.int p6), .val (.ref b1), .val (.int (1 : Int32)), .val (.int v12), .val (.int v13)] [(.int (1 : Int32))])) := by
        intro ttx ktx
        refine go39 ttx ?_
        show Steps p.tables e below (T37.setTop (mkF m 192 #[.val (.int p1), .val (.int p2), .val (.int p3), .val (.int p4), .val (.int p5), .val (.int p6), .val (.ref b1), .val (.int (1 : Int32)), .val (.int v12), .val (.int v13)] [(.int (if kk27 = (0 : Int32) then (1 : Int32) else (0 : Int32)))])) _
        refine XS.iconst X37.here hx rfl (hb hby at_192) ?_
        show Steps p.tables e below (T37.setTop (mkF m 193 #[.val (.int p1), .val (.int p2), .val (.int p3), .val (.int p4), .val (.int p5), .val (.int p6), .val (.ref b1), .val (.int (1 : Int32)), .val (.int v12), .val (.int v13)] [(.int (0 : Int32)), (.int (if kk27 = (0 : Int32) then (1 : Int32) else (0 : Int32)))])) _
        refine XS.icmpNo X37.here hx rfl (hb hby at_193) rfl (teq hc40_193).2 ?_
        show Steps p.tables e below (T37.setTop (mkF m 196 #[.val (.int p1), .val (.int p2), .val (.int p3), .val (.int p4), .val (.int p5), .val (.int p6), .val (.ref b1), .val (.int (1 : Int32)), .val (.int v12), .val (.int v13)] [])) _
        refine XS.iconst X37.here hx rfl (hb hby at_196) ?_
        show Steps p.tables e below (T37.setTop (mkF m 197 #[.val (.int p1), .val (.int p2), .val (.int p3), .val (.int p4), .val (.int p5), .val (.int p6), .val (.ref b1), .val (.int (1 : Int32)), .val (.int v12), .val (.int v13)] [(.int (1 : Int32))])) _
        refine XS.goto X37.here hx rfl (pc0 := 197) (pc' := 201) rfl (hb hby at_197) (by decide) (by decide) ?_
        show Steps p.tables e below (T37.setTop (mkF m 201 #[.val (.int p1), .val (.int p2), .val (.int p3), .val (.int p4), .val (.int p5), .val (.int p6), .val (.ref b1), .val (.int (1 : Int32)), .val (.int v12), .val (.int v13)] [(.int (1 : Int32))])) _
        refine XS.istore X37.here hx rfl (hb hby at_201) rfl (l' := #[.val (.int p1), .val (.int p2), .val (.int p3), .val (.int p4), .val (.int p5), .val (.int p6), .val (.ref b1), .val (.int (1 : Int32)), .val (.int v12), .val (.int v13)]) rfl ?_
        show Steps p.tables e below (T37.setTop (mkF m 203 #[.val (.int p1), .val (.int p2), .val (.int p3), .val (.int p4), .val (.int p5), .val (.int p6), .val (.ref b1), .val (.int (1 : Int32)), .val (.int v12), .val (.int v13)] [])) _
        refine XS.iload X37.here hx rfl (hb hby at_203) rfl ?_
        exact ktx
      obtain ⟨fs, hr, hrun, hended, hW, hsame⟩ := X37.leave (v := some (.int (1 : Int32))) (fun h => by rw [Bd.returns] at h; cases h)
      refine ⟨_, _, go41 _ ?_, hrun, hended, _, _, rfl, ?_, ⟨_, rfl⟩, hW, hsame.mono (by decide) (by decide)⟩
      · exact retN X37 hx (t := .boolean) Bd.returns (by simp) (hb hby at_205) hr
      · show Q0 Z p1 p2 p3 p4 p5 p6 h0 n0 _ T37.heap _
        rw [e37]
        exact ⟨rfl, N37⟩
    · obtain ⟨cq42, kq42, q42a, q42b, q42c⟩ := isOf hZ e29 Eq27
      obtain ⟨_, _, ⟨T42, L42, k42, n42⟩, -, X42, ⟨Lc42, hQ42, l42, y42, z42⟩, st42⟩ := X29.virtualBack hx (y := (⟨"com/example/structweave/structweave/wddx/PlaceRing", "note", "(II)V"⟩ : MethodName)) (z := (⟨"com/example/structweave/structweave/wddx/PlaceRing", "note", "(II)V"⟩ : MethodName)) hown (mvT hZ (hw _ (List.mem_of_getElem? (i := 27) rfl))) (mvT hZ (hw _ (List.mem_of_getElem? (i := 28) rfl))) (notFace_of_selects (args := #[]) (mvT hZ (hw _ (List.mem_of_getElem? (i := 30) rfl)))) (mvT hZ (hw _ (List.mem_of_getElem? (i := 30) rfl))) (mvT hZ (hw _ (List.mem_of_getElem? (i := 29) rfl))) (by decide) (backOf (W := 0) (rm5 l Z a0 hw [] b1 (v13 + (1 : Int32)) p6 tm6 nm6 o27 kk27 T27.heap n0 Z27 Eq27 g_b1 g_tm6 ne7 Fp27 Fo27 Fc27 Vq27 rb27) hZ (hw _ (List.mem_of_getElem? (i := 31) rfl)) (hw _ (List.mem_of_getElem? (i := 2) rfl)) (by decide) (by decide)) q42a q42c (g := (mkF m 104 #[.val (.int p1), .val (.int p2), .val (.int p3), .val (.int p4), .val (.int p5), .val (.int p6), .val (.ref b1), .val (.int (1 : Int32)), .val (.int v12), .val (.int v13)] [(.int p6), (.int (v13 + (1 : Int32))), (.ref b1)])) rfl (by rw [hml]; rfl) (Steps.refl _) (argsL := [(.int (v13 + (1 : Int32))), (.int p6)]) (rest := []) (lenOf own_pd5 rfl) rfl (by show 2 * 0 + _ ≤ _; exact Nat.le_of_eq rfl) (hb hby at_104) (fun _ _ => ⟨rfl, e29, (by decide : 3 + 0 ≤ _), (by decide : 11 + 0 ≤ _)⟩)
      dsimp only [Pt.U, Pt.locs, Pt.cells, Pt.slots] at X42 l42 y42 z42 st42 hQ42
      subst l42 y42 z42
      obtain ⟨rfl, Nq42, Kq42, Eq42, Fp42, Vq42, o42, kk42, Fo42, Fc42, rb42, ps42⟩ := hQ42
      have N42 := Fr.app N29 Nq42
      have Z42 : n0 ≤ T42.heap.size := Nat.le_trans Z27 Kq42.1
      have hc43_109 : ¬ ((1 : Int32) = (0 : Int32)) := (by decide)
      obtain ⟨cq44, kq44, q44a, q44b, q44c⟩ := isOf hZ rfl Eq42
      obtain ⟨_, _, ⟨T44, L44, k44, n44⟩, -, X44, ⟨Lc44, hQ44, l44, y44, z44⟩, st44⟩ := X42.virtualBack hx (y := (⟨"com/example/structweave/structweave/wddx/PlaceRing", "isEmpty", "()Z"⟩ : MethodName)) (z := (⟨"com/example/structweave/structweave/wddx/PlaceRing", "isEmpty", "()Z"⟩ : MethodName)) hown (mvT hZ (hw _ (List.mem_of_getElem? (i := 12) rfl))) (mvT hZ (hw _ (List.mem_of_getElem? (i := 13) rfl))) (notFace_of_selects (args := #[]) (mvT hZ (hw _ (List.mem_of_getElem? (i := 15) rfl)))) (mvT hZ (hw _ (List.mem_of_getElem? (i := 15) rfl))) (mvT hZ (hw _ (List.mem_of_getElem? (i := 14) rfl))) (by decide) (backOf (W := 0) (rm3 l Z a0 hw [] b1 kk42 T42.heap n0 Z42 Fc42) hZ (hw _ (List.mem_of_getElem? (i := 16) rfl)) (hw _ (List.mem_of_getElem? (i := 2) rfl)) (by decide) (by decide)) q44a q44c (g := (mkF m 114 #[.val (.int p1), .val (.int p2), .val (.int p3), .val (.int p4), .val (.int p5), .val (.int p6), .val (.ref b1), .val (.int (1 : Int32)), .val (.int v12), .val (.int v13)] [(.ref b1)])) rfl (by rw [hml]; rfl) (Steps.refl _) (argsL := []) (rest := []) (lenOf own_pd3 rfl) rfl (by show 2 * 0 + _ ≤ _; exact Nat.le_of_eq rfl) (hb hby at_114) (fun _ _ => ⟨rfl, rfl, (by decide : 3 + 0 ≤ _), (by decide : 11 + 0 ≤ _)⟩)
      dsimp only [Pt.U, Pt.locs, Pt.cells, Pt.slots] at X44 l44 y44 z44 st44 hQ44
      subst l44 y44 z44
      obtain ⟨rfl, Nq44, e44⟩ := hQ44
      have N44 := Fr.app N42 Nq44
      have hc45_117 : (if kk42 = (0 : Int32) then (1 : Int32) else (0 : Int32)) = (0 : Int32) := by rw [if_neg (own_p0 ps42)]
      have go46 : own_go p e below (s₁.setTop (entryFrame m #[(.int p1), (.int p2), (.int p3), (.int p4), (.int p5), (.int p6)] maxLocals)) (T44.setTop (mkF m 127 #[.val (.int p1), .val (.int p2), .val (.int p3), .val (.int p4), .val (.int p5), .val (.int p6), .val (.ref b1), .val (.int (1 : Int32)), .val (.int v12), .val (.int v13)] [])) := by
        intro ttx ktx
        refine go31 ttx ?_
        show Steps p.tables e below (T29.setTop (mkF m 93 #[.val (.int p1), .val (.int p2), .val (.int p3), .val (.int p4), .val (.int p5), .val (.int p6), .val (.ref b1), .val (.int (1 : Int32)), .val (.int v12), .val (.int v13)] [(.int (2 : Int32)), (.int v12)])) _
        refine XS.icmpNo X29.here hx rfl (hb hby at_93) rfl (flt hc32_93).1 ?_
        show Steps p.tables e below (T29.setTop (mkF m 96 #[.val (.int p1), .val (.int p2), .val (.int p3), .val (.int p4), .val (.int p5), .val (.int p6), .val (.ref b1), .val (.int (1 : Int32)), .val (.int v12), .val (.int v13)] [])) _
        refine XS.aload X29.here hx rfl (hb hby at_96) rfl rfl ?_
        show Steps p.tables e below (T29.setTop (mkF m 98 #[.val (.int p1), .val (.int p2), .val (.int p3), .val (.int p4), .val (.int p5), .val (.int p6), .val (.ref b1), .val (.int (1 : Int32)), .val (.int v12), .val (.int v13)] [(.ref b1)])) _
        refine XS.iload X29.here hx rfl (hb hby at_98) rfl ?_
        show Steps p.tables e below (T29.setTop (mkF m 100 #[.val (.int p1), .val (.int p2), .val (.int p3), .val (.int p4), .val (.int p5), .val (.int p6), .val (.ref b1), .val (.int (1 : Int32)), .val (.int v12), .val (.int v13)] [(.int v13), (.ref b1)])) _
        refine XS.iconst X29.here hx rfl (hb hby at_100) ?_
        show Steps p.tables e below (T29.setTop (mkF m 101 #[.val (.int p1), .val (.int p2), .val (.int p3), .val (.int p4), .val (.int p5), .val (.int p6), .val (.ref b1), .val (.int (1 : Int32)), .val (.int v12), .val (.int v13)] [(.int (1 : Int32)), (.int v13), (.ref b1)])) _
        refine XS.iadd X29.here hx rfl (hb hby at_101) rfl ?_
        show Steps p.tables e below (T29.setTop (mkF m 102 #[.val (.int p1), .val (.int p2), .val (.int p3), .val (.int p4), .val (.int p5), .val (.int p6), .val (.ref b1), .val (.int (1 : Int32)), .val (.int v12), .val (.int v13)] [(.int (v13 + (1 : Int32))), (.ref b1)])) _
        refine XS.iload X29.here hx rfl (hb hby at_102) rfl ?_
        show Steps p.tables e below (T29.setTop (mkF m 104 #[.val (.int p1), .val (.int p2), .val (.int p3), .val (.int p4), .val (.int p5), .val (.int p6), .val (.ref b1), .val (.int (1 : Int32)), .val (.int v12), .val (.int v13)] [(.int p6), (.int (v13 + (1 : Int32))), (.ref b1)])) _
        refine st42.trans ?_
        show Steps p.tables e below (T42.setTop (mkF m 107 #[.val (.int p1), .val (.int p2), .val (.int p3), .val (.int p4), .val (.int p5), .val (.int p6), .val (.ref b1), .val (.int (1 : Int32)), .val (.int v12), .val (.int v13)] [])) _
        refine XS.iload X42.here hx rfl (hb hby at_107) rfl ?_
        show Steps p.tables e below (T42.setTop (mkF m 109 #[.val (.int p1), .val (.int p2), .val (.int p3), .val (.int p4), .val (.int p5), .val (.int p6), .val (.ref b1), .val (.int (1 : Int32)), .val (.int v12), .val (.int v13)] [(.int (1 : Int32))])) _
        refine XS.ifNo X42.here hx rfl (hb hby at_109) rfl ((if0 _ _).trans (feq hc43_109).1) ?_
        show Steps p.tables e below (T42.setTop (mkF m 112 #[.val (.int p1), .val (.int p2), .val (.int p3), .val (.int p4), .val (.int p5), .val (.int p6), .val (.ref b1), .val (.int (1 : Int32)), .val (.int v12), .val (.int v13)] [])) _
        refine XS.aload X42.here hx rfl (hb hby at_112) rfl rfl ?_
        show Steps p.tables e below (T42.setTop (mkF m 114 #[.val (.int p1), .val (.int p2), .val (.int p3), .val (.int p4), .val (.int p5), .val (.int p6), .val (.ref b1), .val (.int (1 : Int32)), .val (.int v12), .val (.int v13)] [(.ref b1)])) _
        refine st44.trans ?_
        show Steps p.tables e below (T44.setTop (mkF m 117 #[.val (.int p1), .val (.int p2), .val (.int p3), .val (.int p4), .val (.int p5), .val (.int p6), .val (.ref b1), .val (.int (1 : Int32)), .val (.int v12), .val (.int v13)] [(.int (if kk42 = (0 : Int32) then (1 : Int32) else (0 : Int32)))])) _
        refine XS.ifNo X44.here hx rfl (hb hby at_117) rfl ((if0 _ _).trans (teq hc45_117).2) ?_
        show Steps p.tables e below (T44.setTop (mkF m 120 #[.val (.int p1), .val (.int p2), .val (.int p3), .val (.int p4), .val (.int p5), .val (.int p6), .val (.ref b1), .val (.int (1 : Int32)), .val (.int v12), .val (.int v13)] [])) _
        refine XS.iconst X44.here hx rfl (hb hby at_120) ?_
        show Steps p.tables e below (T44.setTop (mkF m 121 #[.val (.int p1), .val (.int p2), .val (.int p3), .val (.int p4), .val (.int p5), .val (.int p6), .val (.ref b1), .val (.int (1 : Int32)), .val (.int v12), .val (.int v13)] [(.int (1 : Int32))])) _
        refine XS.goto X44.here hx rfl (pc0 := 121) (pc' := 125) rfl (hb hby at_121) (by decide) (by decide) ?_
        show Steps p.tables e below (T44.setTop (mkF m 125 #[.val (.int p1), .val (.int p2), .val (.int p3), .val (.int p4), .val (.int p5), .val (.int p6), .val (.ref b1), .val (.int (1 : Int32)), .val (.int v12), .val (.int v13)] [(.int (1 : Int32))])) _
        refine XS.istore X44.here hx rfl (hb hby at_125) rfl (l' := #[.val (.int p1), .val (.int p2), .val (.int p3), .val (.int p4), .val (.int p5), .val (.int p6), .val (.ref b1), .val (.int (1 : Int32)), .val (.int v12), .val (.int v13)]) rfl ?_
        exact ktx
      have go47 : own_go p e below (s₁.setTop (entryFrame m #[(.int p1), (.int p2), (.int p3), (.int p4), (.int p5), (.int p6)] maxLocals)) (T44.setTop (mkF m 130 #[.val (.int p1), .val (.int p2), .val (.int p3), .val (.int p4), .val (.int p5), .val (.int p6), .val (.ref b1), .val (.int (1 : Int32)), .val (.int v12), .val (.int v13)] [(.int (3 : Int32)), (.int v12)])) := by
        intro ttx ktx
        refine go46 ttx ?_
        show Steps p.tables e below (T44.setTop (mkF m 127 #[.val (.int p1), .val (.int p2), .val (.int p3), .val (.int p4), .val (.int p5), .val (.int p6), .val (.ref b1), .val (.int (1 : Int32)), .val (.int v12), .val (.int v13)] [])) _
        refine XS.iload X44.here hx rfl (hb hby at_127) rfl ?_
        show Steps p.tables e below (T44.setTop (mkF m 129 #[.val (.int p1), .val (.int p2), .val (.int p3), .val (.int p4), .val (.int p5), .val (.int p6), .val (.ref b1), .val (.int (1 : Int32)), .val (.int v12), .val (.int v13)] [(.int v12)])) _
        refine XS.iconst X44.here hx rfl (hb hby at_129) ?_
        exact ktx
      by_cases hc48_130 : v12 < (3 : Int32)
      · obtain ⟨cq49, kq49, q49a, q49b, q49c⟩ := isOf hZ e44 Eq42
        obtain ⟨_, _, ⟨T49, L49, k49, n49⟩, -, X49, ⟨Lc49, hQ49, l49, y49, z49⟩, st49⟩ := X44.virtualBack hx (y := (⟨"com/example/structweave/structweave/wddx/PlaceRing", "makeRoom", "(I)V"⟩ : MethodName)) (z := (⟨"com/example/structweave/structweave/wddx/PlaceRing", "makeRoom", "(I)V"⟩ : MethodName)) hown (mvT hZ (hw _ (List.mem_of_getElem? (i := 19) rfl))) (mvT hZ (hw _ (List.mem_of_getElem? (i := 20) rfl))) (notFace_of_selects (args := #[]) (mvT hZ (hw _ (List.mem_of_getElem? (i := 22) rfl)))) (mvT hZ (hw _ (List.mem_of_getElem? (i := 22) rfl))) (mvT hZ (hw _ (List.mem_of_getElem? (i := 21) rfl))) (by decide) (backOf (W := 0) (rm4 l Z a0 hw [] b1 (p5 &&& (7 : Int32)) tm6 nm6 o42 kk42 T42.heap n0 Z42 Eq42 g_b1 g_tm6 ne7 Fp42 Fo42 Fc42 Vq42 rb42 (own_7 _)) hZ (hw _ (List.mem_of_getElem? (i := 23) rfl)) (hw _ (List.mem_of_getElem? (i := 2) rfl)) (by decide) (by decide)) q49a q49c (g := (mkF m 170 #[.val (.int p1), .val (.int p2), .val (.int p3), .val (.int p4), .val (.int p5), .val (.int p6), .val (.ref b1), .val (.int (1 : Int32)), .val (.int v12), .val (.int v13)] [(.int (p5 &&& (7 : Int32))), (.ref b1)])) rfl (by rw [hml]; rfl) (Steps.refl _) (argsL := [(.int (p5 &&& (7 : Int32)))]) (rest := []) (lenOf own_pd4 rfl) rfl (by show 2 * 0 + _ ≤ _; exact Nat.le_of_eq rfl) (hb hby at_170) (fun _ _ => ⟨rfl, e44, (by decide : 3 + 1 ≤ _), (by decide : 11 + 7 ≤ _)⟩)
        dsimp only [Pt.U, Pt.locs, Pt.cells, Pt.slots] at X49 l49 y49 z49 st49 hQ49
        subst l49 y49 z49
        obtain ⟨rfl, Nq49, Kq49, Eq49, tm49, nm49, om49, gq49, dq49, Fp49, Fo49, Fc49, Vq49, rb49⟩ := hQ49
        have N49 := Fr.app N44 Nq49
        have ne50 : b1 ≠ tm49 := by rcases dq49 with rfl | q; exact ne7; exact Nat.ne_of_lt (Nat.lt_of_lt_of_le Eq42.lt q)
        have g_tm49 := gq49
        have Z49 : n0 ≤ T49.heap.size := Nat.le_trans Z42 Kq49.1
        have hc51_175 : ¬ ((1 : Int32) = (0 : Int32)) := (by decide)
        obtain ⟨cq52, kq52, q52a, q52b, q52c⟩ := isOf hZ rfl Eq49
        obtain ⟨_, _, ⟨T52, L52, k52, n52⟩, -, X52, ⟨Lc52, hQ52, l52, y52, z52⟩, st52⟩ := X49.virtualBack hx (y := (⟨"com/example/structweave/structweave/wddx/PlaceRing", "isEmpty", "()Z"⟩ : MethodName)) (z := (⟨"com/example/structweave/structweave/wddx/PlaceRing", "isEmpty", "()Z"⟩ : MethodName)) hown (mvT hZ (hw _ (List.mem_of_getElem? (i := 12) rfl))) (mvT hZ (hw _ (List.mem_of_getElem? (i := 13) rfl))) (notFace_of_selects (args := #[]) (mvT hZ (hw _ (List.mem_of_getElem? (i := 15) rfl)))) (mvT hZ (hw _ (List.mem_of_getElem? (i := 15) rfl))) (mvT hZ (hw _ (List.mem_of_getElem? (i := 14) rfl))) (by decide) (backOf (W := 0) (rm3 l Z a0 hw [] b1 kk42 T49.heap n0 Z49 Fc49) hZ (hw _ (List.mem_of_getElem? (i := 16) rfl)) (hw _ (List.mem_of_getElem? (i := 2) rfl)) (by decide) (by decide)) q52a q52c (g := (mkF m 180 #[.val (.int p1), .val (.int p2), .val (.int p3), .val (.int p4), .val (.int p5), .val (.int p6), .val (.ref b1), .val (.int (1 : Int32)), .val (.int v12), .val (.int v13)] [(.ref b1)])) rfl (by rw [hml]; rfl) (Steps.refl _) (argsL := []) (rest := []) (lenOf own_pd3 rfl) rfl (by show 2 * 0 + _ ≤ _; exact Nat.le_of_eq rfl) (hb hby at_180) (fun _ _ => ⟨rfl, rfl, (by decide : 4 + 0 ≤ _), (by decide : 18 + 0 ≤ _)⟩)
        dsimp only [Pt.U, Pt.locs, Pt.cells, Pt.slots] at X52 l52 y52 z52 st52 hQ52
        subst l52 y52 z52
        obtain ⟨rfl, Nq52, e52⟩ := hQ52
        have N52 := Fr.app N49 Nq52
        have hc53_185 : ¬ (v12 = (0 : Int32)) := own_nz1 hc16_59
        have hc54_193 : (if kk42 = (0 : Int32) then (1 : Int32) else (0 : Int32)) = (0 : Int32) := by rw [if_neg (own_p0 ps42)]
        have go55 : own_go p e below (s₁.setTop (entryFrame m #[(.int p1), (.int p2), (.int p3), (.int p4), (.int p5), (.int p6)] maxLocals)) (T52.setTop (mkF m 197 #[.val (.int p1), .val (.int p2), .val (.int p3), .val (.int p4), .val (.int p5), .val (.int p6), .val (.ref b1), .val (.int (1 : Int32)), .val (.int v12), .val (.int v13)] [(.int (1 : Int32))])) := by
          intro ttx ktx
          refine go47 ttx ?_
          show Steps p.tables e below (T44.setTop (mkF m 130 #[.val (.int p1), .val (.int p2), .val (.int p3), .val (.int p4), .val (.int p5), .val (.int p6), .val (.ref b1), .val (.int (1 : Int32)), .val (.int v12), .val (.int v13)] [(.int (3 : Int32)), (.int v12)])) _
          refine XS.icmpYes X44.here hx rfl (pc0 := 130) (pc' := 163) rfl (hb hby at_130) rfl (tlt hc48_130).1 (by decide) (by decide) ?_
          show Steps p.tables e below (T44.setTop (mkF m 163 #[.val (.int p1), .val (.int p2), .val (.int p3), .val (.int p4), .val (.int p5), .val (.int p6), .val (.ref b1), .val (.int (1 : Int32)), .val (.int v12), .val (.int v13)] [])) _
          refine XS.aload X44.here hx rfl (hb hby at_163) rfl rfl ?_
          show Steps p.tables e below (T44.setTop (mkF m 165 #[.val (.int p1), .val (.int p2), .val (.int p3), .val (.int p4), .val (.int p5), .val (.int p6), .val (.ref b1), .val (.int (1 : Int32)), .val (.int v12), .val (.int v13)] [(.ref b1)])) _
          refine XS.iload X44.here hx rfl (hb hby at_165) rfl ?_
          show Steps p.tables e below (T44.setTop (mkF m 167 #[.val (.int p1), .val (.int p2), .val (.int p3), .val (.int p4), .val (.int p5), .val (.int p6), .val (.ref b1), .val (.int (1 : Int32)), .val (.int v12), .val (.int v13)] [(.int p5), (.ref b1)])) _
          refine XS.bipush X44.here hx rfl (hb hby at_167) ?_
          show Steps p.tables e below (T44.setTop (mkF m 169 #[.val (.int p1), .val (.int p2), .val (.int p3), .val (.int p4), .val (.int p5), .val (.int p6), .val (.ref b1), .val (.int (1 : Int32)), .val (.int v12), .val (.int v13)] [(.int (7 : Int32)), (.int p5), (.ref b1)])) _
          refine XS.iand X44.here hx rfl (hb hby at_169) rfl ?_
          show Steps p.tables e below (T44.setTop (mkF m 170 #[.val (.int p1), .val (.int p2), .val (.int p3), .val (.int p4), .val (.int p5), .val (.int p6), .val (.ref b1), .val (.int (1 : Int32)), .val (.int v12), .val (.int v13)] [(.int (p5 &&& (7 : Int32))), (.ref b1)])) _
          refine st49.trans ?_
          show Steps p.tables e below (T49.setTop (mkF m 173 #[.val (.int p1), .val (.int p2), .val (.int p3), .val (.int p4), .val (.int p5), .val (.int p6), .val (.ref b1), .val (.int (1 : Int32)), .val (.int v12), .val (.int v13)] [])) _
          refine XS.iload X49.here hx rfl (hb hby at_173) rfl ?_
          show Steps p.tables e below (T49.setTop (mkF m 175 #[.val (.int p1), .val (.int p2), .val (.int p3), .val (.int p4), .val (.int p5), .val (.int p6), .val (.ref b1), .val (.int (1 : Int32)), .val (.int v12), .val (.int v13)] [(.int (1 : Int32))])) _
          refine XS.ifNo X49.here hx rfl (hb hby at_175) rfl ((if0 _ _).trans (feq hc51_175).1) ?_
          show Steps p.tables e below (T49.setTop (mkF m 178 #[.val (.int p1), .val (.int p2), .val (.int p3), .val (.int p4), .val (.int p5), .val (.int p6), .val (.ref b1), .val (.int (1 : Int32)), .val (.int v12), .val (.int v13)] [])) _
          refine XS.aload X49.here hx rfl (hb hby at_178) rfl rfl ?_
          show Steps p.tables e below (T49.setTop (mkF m 180 #[.val (.int p1), .val (.int p2), .val (.int p3), .val (.int p4), .val (.int p5), .val (.int p6), .val (.ref b1), .val (.int (1 : Int32)), .val (.int v12), .val (.int v13)] [(.ref b1)])) _
          refine st52.trans ?_
          show Steps p.tables e below (T52.setTop (mkF m 183 #[.val (.int p1), .val (.int p2), .val (.int p3), .val (.int p4), .val (.int p5), .val (.int p6), .val (.ref b1), .val (.int (1 : Int32)), .val (.int v12), .val (.int v13)] [(.int (if kk42 = (0 : Int32) then (1 : Int32) else (0 : Int32)))])) _
          refine XS.iload X52.here hx rfl (hb hby at_183) rfl ?_
          show Steps p.tables e below (T52.setTop (mkF m 185 #[.val (.int p1), .val (.int p2), .val (.int p3), .val (.int p4), .val (.int p5), .val (.int p6), .val (.ref b1), .val (.int (1 : Int32)), .val (.int v12), .val (.int v13)] [(.int v12), (.int (if kk42 = (0 : Int32) then (1 : Int32) else (0 : Int32)))])) _
          refine XS.ifYes X52.here hx rfl (pc0 := 185) (pc' := 192) rfl (hb hby at_185) rfl ((if0 _ _).trans (feq hc53_185).2) (by decide) (by decide) ?_
          show Steps p.tables e below (T52.setTop (mkF m 192 #[.val (.int p1), .val (.int p2), .val (.int p3), .val (.int p4), .val (.int p5), .val (.int p6), .val (.ref b1), .val (.int (1 : Int32)), .val (.int v12), .val (.int v13)] [(.int (if kk42 = (0 : Int32) then (1 : Int32) else (0 : Int32)))])) _
          refine XS.iconst X52.here hx rfl (hb hby at_192) ?_
          show Steps p.tables e below (T52.setTop (mkF m 193 #[.val (.int p1), .val (.int p2), .val (.int p3), .val (.int p4), .val (.int p5), .val (.int p6), .val (.ref b1), .val (.int (1 : Int32)), .val (.int v12), .val (.int v13)] [(.int (0 : Int32)), (.int (if kk42 = (0 : Int32) then (1 : Int32) else (0 : Int32)))])) _
          refine XS.icmpNo X52.here hx rfl (hb hby at_193) rfl (teq hc54_193).2 ?_
          show Steps p.tables e below (T52.setTop (mkF m 196 #[.val (.int p1), .val (.int p2), .val (.int p3), .val (.int p4), .val (.int p5), .val (.int p6), .val (.ref b1), .val (.int (1 : Int32)), .val (.int v12), .val (.int v13)] [])) _
          refine XS.iconst X52.here hx rfl (hb hby at_196) ?_
          exact ktx
        have go56 : own_go p e below (s₁.setTop (entryFrame m #[(.int p1), (.int p2), (.int p3), (.int p4), (.int p5), (.int p6)] maxLocals)) (T52.setTop (mkF m 205 #[.val (.int p1), .val (.int p2), .val (.int p3), .val (.int p4), .val (.int p5), .val (.int p6), .val (.ref b1), .val (.int (1 : Int32)), .val (.int v12), .val (.int v13)] [(.int (1 : Int32))])) := by
          intro ttx ktx
          refine go55 ttx ?_
          show Steps p.tables e below (T52.setTop (mkF m 197 #[.val (.int p1), .val (.int p2), .val (.int p3), .val (.int p4), .val (.int p5), .val (.int p6), .val (.ref b1), .val (.int (1 : Int32)), .val (.int v12), .val (.int v13)] [(.int (1 : Int32))])) _
          refine XS.goto X52.here hx rfl (pc0 := 197) (pc' := 201) rfl (hb hby at_197) (by decide) (by decide) ?_
          show Steps p.tables e below (T52.setTop (mkF m 201 #[.val (.int p1), .val (.int p2), .val (.int p3), .val (.int p4), .val (.int p5), .val (.int p6), .val (.ref b1), .val (.int (1 : Int32)), .val (.int v12), .val (.int v13)] [(.int (1 : Int32))])) _
          refine XS.istore X52.here hx rfl (hb hby at_201) rfl (l' := #[.val (.int p1), .val (.int p2), .val (.int p3), .val (.int p4), .val (.int p5), .val (.int p6), .val (.ref b1), .val (.int (1 : Int32)), .val (.int v12), .val (.int v13)]) rfl ?_
          show Steps p.tables e below (T52.setTop (mkF m 203 #[.val (.int p1), .val (.int p2), .val (.int p3), .val (.int p4), .val (.int p5), .val (.int p6), .val (.ref b1), .val (.int (1 : Int32)), .val (.int v12), .val (.int v13)] [])) _
          refine XS.iload X52.here hx rfl (hb hby at_203) rfl ?_
          exact ktx
        obtain ⟨fs, hr, hrun, hended, hW, hsame⟩ := X52.leave (v := some (.int (1 : Int32))) (fun h => by rw [Bd.returns] at h; cases h)
        refine ⟨_, _, go56 _ ?_, hrun, hended, _, _, rfl, ?_, ⟨_, rfl⟩, hW, hsame.mono (by decide) (by decide)⟩
        · exact retN X52 hx (t := .boolean) Bd.returns (by simp) (hb hby at_205) hr
        · show Q0 Z p1 p2 p3 p4 p5 p6 h0 n0 _ T52.heap _
          rw [e52]
          exact ⟨rfl, N52⟩
      · obtain ⟨cq57, kq57, q57a, q57b, q57c⟩ := isOf hZ e44 Eq42
        obtain ⟨_, _, ⟨T57, L57, k57, n57⟩, -, X57, ⟨Lc57, hQ57, l57, y57, z57⟩, st57⟩ := X44.virtualBack hx (y := (⟨"com/example/structweave/structweave/wddx/PlaceRing", "note", "(II)V"⟩ : MethodName)) (z := (⟨"com/example/structweave/structweave/wddx/PlaceRing", "note", "(II)V"⟩ : MethodName)) hown (mvT hZ (hw _ (List.mem_of_getElem? (i := 27) rfl))) (mvT hZ (hw _ (List.mem_of_getElem? (i := 28) rfl))) (notFace_of_selects (args := #[]) (mvT hZ (hw _ (List.mem_of_getElem? (i := 30) rfl)))) (mvT hZ (hw _ (List.mem_of_getElem? (i := 30) rfl))) (mvT hZ (hw _ (List.mem_of_getElem? (i := 29) rfl))) (by decide) (backOf (W := 0) (rm5 l Z a0 hw [] b1 (v13 + (2 : Int32)) p4 tm6 nm6 o42 kk42 T42.heap n0 Z42 Eq42 g_b1 g_tm6 ne7 Fp42 Fo42 Fc42 Vq42 rb42) hZ (hw _ (List.mem_of_getElem? (i := 31) rfl)) (hw _ (List.mem_of_getElem? (i := 2) rfl)) (by decide) (by decide)) q57a q57c (g := (mkF m 140 #[.val (.int p1), .val (.int p2), .val (.int p3), .val (.int p4), .val (.int p5), .val (.int p6), .val (.ref b1), .val (.int (1 : Int32)), .val (.int v12), .val (.int v13)] [(.int p4), (.int (v13 + (2 : Int32))), (.ref b1)])) rfl (by rw [hml]; rfl) (Steps.refl _) (argsL := [(.int (v13 + (2 : Int32))), (.int p4)]) (rest := []) (lenOf own_pd5 rfl) rfl (by show 2 * 0 + _ ≤ _; exact Nat.le_of_eq rfl) (hb hby at_140) (fun _ _ => ⟨rfl, e44, (by decide : 3 + 0 ≤ _), (by decide : 11 + 0 ≤ _)⟩)
        dsimp only [Pt.U, Pt.locs, Pt.cells, Pt.slots] at X57 l57 y57 z57 st57 hQ57
        subst l57 y57 z57
        obtain ⟨rfl, Nq57, Kq57, Eq57, Fp57, Vq57, o57, kk57, Fo57, Fc57, rb57, ps57⟩ := hQ57
        have N57 := Fr.app N44 Nq57
        have Z57 : n0 ≤ T57.heap.size := Nat.le_trans Z42 Kq57.1
        have hc58_145 : ¬ ((1 : Int32) = (0 : Int32)) := (by decide)
        obtain ⟨cq59, kq59, q59a, q59b, q59c⟩ := isOf hZ rfl Eq57
        obtain ⟨_, _, ⟨T59, L59, k59, n59⟩, -, X59, ⟨Lc59, hQ59, l59, y59, z59⟩, st59⟩ := X57.virtualBack hx (y := (⟨"com/example/structweave/structweave/wddx/PlaceRing", "isEmpty", "()Z"⟩ : MethodName)) (z := (⟨"com/example/structweave/structweave/wddx/PlaceRing", "isEmpty", "()Z"⟩ : MethodName)) hown (mvT hZ (hw _ (List.mem_of_getElem? (i := 12) rfl))) (mvT hZ (hw _ (List.mem_of_getElem? (i := 13) rfl))) (notFace_of_selects (args := #[]) (mvT hZ (hw _ (List.mem_of_getElem? (i := 15) rfl)))) (mvT hZ (hw _ (List.mem_of_getElem? (i := 15) rfl))) (mvT hZ (hw _ (List.mem_of_getElem? (i := 14) rfl))) (by decide) (backOf (W := 0) (rm3 l Z a0 hw [] b1 kk57 T57.heap n0 Z57 Fc57) hZ (hw _ (List.mem_of_getElem? (i := 16) rfl)) (hw _ (List.mem_of_getElem? (i := 2) rfl)) (by decide) (by decide)) q59a q59c (g := (mkF m 150 #[.val (.int p1), .val (.int p2), .val (.int p3), .val (.int p4), .val (.int p5), .val (.int p6), .val (.ref b1), .val (.int (1 : Int32)), .val (.int v12), .val (.int v13)] [(.ref b1)])) rfl (by rw [hml]; rfl) (Steps.refl _) (argsL := []) (rest := []) (lenOf own_pd3 rfl) rfl (by show 2 * 0 + _ ≤ _; exact Nat.le_of_eq rfl) (hb hby at_150) (fun _ _ => ⟨rfl, rfl, (by decide : 3 + 0 ≤ _), (by decide : 11 + 0 ≤ _)⟩)
        dsimp only [Pt.U, Pt.locs, Pt.cells, Pt.slots] at X59 l59 y59 z59 st59 hQ59
        subst l59 y59 z59
        obtain ⟨rfl, Nq59, e59⟩ := hQ59
        have N59 := Fr.app N57 Nq59
        have hc60_153 : (if kk57 = (0 : Int32) then (1 : Int32) else (0 : Int32)) = (0 : Int32) := by rw [if_neg (own_p0 ps57)]
        have go61 : own_go p e below (s₁.setTop (entryFrame m #[(.int p1), (.int p2), (.int p3), (.int p4), (.int p5), (.int p6)] maxLocals)) (T59.setTop (mkF m 163 #[.val (.int p1), .val (.int p2), .val (.int p3), .val (.int p4), .val (.int p5), .val (.int p6), .val (.ref b1), .val (.int (1 : Int32)), .val (.int v12), .val (.int v13)] [])) := by
          intro ttx ktx
          refine go47 ttx ?_
          show Steps p.tables e below (T44.setTop (mkF m 130 #[.val (.int p1), .val (.int p2), .val (.int p3), .val (.int p4), .val (.int p5), .val (.int p6), .val (.ref b1), .val (.int (1 : Int32)), .val (.int v12), .val (.int v13)] [(.int (3 : Int32)), (.int v12)])) _
          refine XS.icmpNo X44.here hx rfl (hb hby at_130) rfl (flt hc48_130).1 ?_
          show Steps p.tables e below (T44.setTop (mkF m 133 #[.val (.int p1), .val (.int p2), .val (.int p3), .val (.int p4), .val (.int p5), .val (.int p6), .val (.ref b1), .val (.int (1 : Int32)), .val (.int v12), .val (.int v13)] [])) _
          refine XS.aload X44.here hx rfl (hb hby at_133) rfl rfl ?_
          show Steps p.tables e below (T44.setTop (mkF m 135 #[.val (.int p1), .val (.int p2), .val (.int p3), .val (.int p4), .val (.int p5), .val (.int p6), .val (.ref b1), .val (.int (1 : Int32)), .val (.int v12), .val (.int v13)] [(.ref b1)])) _
          refine XS.iload X44.here hx rfl (hb hby at_135) rfl ?_
          show Steps p.tables e below (T44.setTop (mkF m 137 #[.val (.int p1), .val (.int p2), .val (.int p3), .val (.int p4), .val (.int p5), .val (.int p6), .val (.ref b1), .val (.int (1 : Int32)), .val (.int v12), .val (.int v13)] [(.int v13), (.ref b1)])) _
          refine XS.iconst X44.here hx rfl (hb hby at_137) ?_
          show Steps p.tables e below (T44.setTop (mkF m 138 #[.val (.int p1), .val (.int p2), .val (.int p3), .val (.int p4), .val (.int p5), .val (.int p6), .val (.ref b1), .val (.int (1 : Int32)), .val (.int v12), .val (.int v13)] [(.int (2 : Int32)), (.int v13), (.ref b1)])) _
          refine XS.iadd X44.here hx rfl (hb hby at_138) rfl ?_
          show Steps p.tables e below (T44.setTop (mkF m 139 #[.val (.int p1), .val (.int p2), .val (.int p3), .val (.int p4), .val (.int p5), .val (.int p6), .val (.ref b1), .val (.int (1 : Int32)), .val (.int v12), .val (.int v13)] [(.int (v13 + (2 : Int32))), (.ref b1)])) _
          refine XS.iloadN X44.here hx rfl (hb hby at_139) rfl ?_
          show Steps p.tables e below (T44.setTop (mkF m 140 #[.val (.int p1), .val (.int p2), .val (.int p3), .val (.int p4), .val (.int p5), .val (.int p6), .val (.ref b1), .val (.int (1 : Int32)), .val (.int v12), .val (.int v13)] [(.int p4), (.int (v13 + (2 : Int32))), (.ref b1)])) _
          refine st57.trans ?_
          show Steps p.tables e below (T57.setTop (mkF m 143 #[.val (.int p1), .val (.int p2), .val (.int p3), .val (.int p4), .val (.int p5), .val (.int p6), .val (.ref b1), .val (.int (1 : Int32)), .val (.int v12), .val (.int v13)] [])) _
          refine XS.iload X57.here hx rfl (hb hby at_143) rfl ?_
          show Steps p.tables e below (T57.setTop (mkF m 145 #[.val (.int p1), .val (.int p2), .val (.int p3), .val (.int p4), .val (.int p5), .val (.int p6), .val (.ref b1), .val (.int (1 : Int32)), .val (.int v12), .val (.int v13)] [(.int (1 : Int32))])) _
          refine XS.ifNo X57.here hx rfl (hb hby at_145) rfl ((if0 _ _).trans (feq hc58_145).1) ?_
          show Steps p.tables e below (T57.setTop (mkF m 148 #[.val (.int p1), .val (.int p2), .val (.int p3), .val (.int p4), .val (.int p5), .val (.int p6), .val (.ref b1), .val (.int (1 : Int32)), .val (.int v12), .val (.int v13)] [])) _
          refine XS.aload X57.here hx rfl (hb hby at_148) rfl rfl ?_
          show Steps p.tables e below (T57.setTop (mkF m 150 #[.val (.int p1), .val (.int p2), .val (.int p3), .val (.int p4), .val (.int p5), .val (.int p6), .val (.ref b1), .val (.int (1 : Int32)), .val (.int v12), .val (.int v13)] [(.ref b1)])) _
          refine st59.trans ?_
          show Steps p.tables e below (T59.setTop (mkF m 153 #[.val (.int p1), .val (.int p2), .val (.int p3), .val (.int p4), .val (.int p5), .val (.int p6), .val (.ref b1), .val (.int (1 : Int32)), .val (.int v12), .val (.int v13)] [(.int (if kk57 = (0 : Int32) then (1 : Int32) else (0 : Int32)))])) _
          refine XS.ifNo X59.here hx rfl (hb hby at_153) rfl ((if0 _ _).trans (teq hc60_153).2) ?_
          show Steps p.tables e below (T59.setTop (mkF m 156 #[.val (.int p1), .val (.int p2), .val (.int p3), .val (.int p4), .val (.int p5), .val (.int p6), .val (.ref b1), .val (.int (1 : Int32)), .val (.int v12), .val (.int v13)] [])) _
          refine XS.iconst X59.here hx rfl (hb hby at_156) ?_
          show Steps p.tables e below (T59.setTop (mkF m 157 #[.val (.int p1), .val (.int p2), .val (.int p3), .val (.int p4), .val (.int p5), .val (.int p6), .val (.ref b1), .val (.int (1 : Int32)), .val (.int v12), .val (.int v13)] [(.int (1 : Int32))])) _
          refine XS.goto X59.here hx rfl (pc0 := 157) (pc' := 161) rfl (hb hby at_157) (by decide) (by decide) ?_
          show Steps p.tables e below (T59.setTop (mkF m 161 #[.val (.int p1), .val (.int p2), .val (.int p3), .val (.int p4), .val (.int p5), .val (.int p6), .val (.ref b1), .val (.int (1 : Int32)), .val (.int v12), .val (.int v13)] [(.int (1 : Int32))])) _
          refine XS.istore X59.here hx rfl (hb hby at_161) rfl (l' := #[.val (.int p1), .val (.int p2), .val (.int p3), .val (.int p4), .val (.int p5), .val (.int p6), .val (.ref b1), .val (.int (1 : Int32)), .val (.int v12), .val (.int v13)]) rfl ?_
          exact ktx
        obtain ⟨cq62, kq62, q62a, q62b, q62c⟩ := isOf hZ e59 Eq57
        obtain ⟨_, _, ⟨T62, L62, k62, n62⟩, -, X62, ⟨Lc62, hQ62, l62, y62, z62⟩, st62⟩ := X59.virtualBack hx (y := (⟨"com/example/structweave/structweave/wddx/PlaceRing", "makeRoom", "(I)V"⟩ : MethodName)) (z := (⟨"com/example/structweave/structweave/wddx/PlaceRing", "makeRoom", "(I)V"⟩ : MethodName)) hown (mvT hZ (hw _ (List.mem_of_getElem? (i := 19) rfl))) (mvT hZ (hw _ (List.mem_of_getElem? (i := 20) rfl))) (notFace_of_selects (args := #[]) (mvT hZ (hw _ (List.mem_of_getElem? (i := 22) rfl)))) (mvT hZ (hw _ (List.mem_of_getElem? (i := 22) rfl))) (mvT hZ (hw _ (List.mem_of_getElem? (i := 21) rfl))) (by decide) (backOf (W := 0) (rm4 l Z a0 hw [] b1 (p5 &&& (7 : Int32)) tm6 nm6 o57 kk57 T57.heap n0 Z57 Eq57 g_b1 g_tm6 ne7 Fp57 Fo57 Fc57 Vq57 rb57 (own_7 _)) hZ (hw _ (List.mem_of_getElem? (i := 23) rfl)) (hw _ (List.mem_of_getElem? (i := 2) rfl)) (by decide) (by decide)) q62a q62c (g := (mkF m 170 #[.val (.int p1), .val (.int p2), .val (.int p3), .val (.int p4), .val (.int p5), .val (.int p6), .val (.ref b1), .val (.int (1 : Int32)), .val (.int v12), .val (.int v13)] [(.int (p5 &&& (7 : Int32))), (.ref b1)])) rfl (by rw [hml]; rfl) (Steps.refl _) (argsL := [(.int (p5 &&& (7 : Int32)))]) (rest := []) (lenOf own_pd4 rfl) rfl (by show 2 * 0 + _ ≤ _; exact Nat.le_of_eq rfl) (hb hby at_170) (fun _ _ => ⟨rfl, e59, (by decide : 3 + 1 ≤ _), (by decide : 11 + 7 ≤ _)⟩)
        dsimp only [Pt.U, Pt.locs, Pt.cells, Pt.slots] at X62 l62 y62 z62 st62 hQ62
        subst l62 y62 z62
        obtain ⟨rfl, Nq62, Kq62, Eq62, tm62, nm62, om62, gq62, dq62, Fp62, Fo62, Fc62, Vq62, rb62⟩ := hQ62
        have N62 := Fr.app N59 Nq62
        have ne63 : b1 ≠ tm62 := by rcases dq62 with rfl | q; exact ne7; exact Nat.ne_of_lt (Nat.lt_of_lt_of_le Eq57.lt q)
        have g_tm62 := gq62
        have Z62 : n0 ≤ T62.heap.size := Nat.le_trans Z57 Kq62.1
        have hc64_175 : ¬ ((1 : Int32) = (0 : Int32)) := (by decide)
        obtain ⟨cq65, kq65, q65a, q65b, q65c⟩ := isOf hZ rfl Eq62
        obtain ⟨_, _, ⟨T65, L65, k65, n65⟩, -, X65, ⟨Lc65, hQ65, l65, y65, z65⟩, st65⟩ := X62.virtualBack hx (y := (⟨"com/example/structweave/structweave/wddx/PlaceRing", "isEmpty", "()Z"⟩ : MethodName)) (z := (⟨"com/example/structweave/structweave/wddx/PlaceRing", "isEmpty", "()Z"⟩ : MethodName)) hown (mvT hZ (hw _ (List.mem_of_getElem? (i := 12) rfl))) (mvT hZ (hw _ (List.mem_of_getElem? (i := 13) rfl))) (notFace_of_selects (args := #[]) (mvT hZ (hw _ (List.mem_of_getElem? (i := 15) rfl)))) (mvT hZ (hw _ (List.mem_of_getElem? (i := 15) rfl))) (mvT hZ (hw _ (List.mem_of_getElem? (i := 14) rfl))) (by decide) (backOf (W := 0) (rm3 l Z a0 hw [] b1 kk57 T62.heap n0 Z62 Fc62) hZ (hw _ (List.mem_of_getElem? (i := 16) rfl)) (hw _ (List.mem_of_getElem? (i := 2) rfl)) (by decide) (by decide)) q65a q65c (g := (mkF m 180 #[.val (.int p1), .val (.int p2), .val (.int p3), .val (.int p4), .val (.int p5), .val (.int p6), .val (.ref b1), .val (.int (1 : Int32)), .val (.int v12), .val (.int v13)] [(.ref b1)])) rfl (by rw [hml]; rfl) (Steps.refl _) (argsL := []) (rest := []) (lenOf own_pd3 rfl) rfl (by show 2 * 0 + _ ≤ _; exact Nat.le_of_eq rfl) (hb hby at_180) (fun _ _ => ⟨rfl, rfl, (by decide : 4 + 0 ≤ _), (by decide : 18 + 0 ≤ _)⟩)
        dsimp only [Pt.U, Pt.locs, Pt.cells, Pt.slots] at X65 l65 y65 z65 st65 hQ65
        subst l65 y65 z65
        obtain ⟨rfl, Nq65, e65⟩ := hQ65
        have N65 := Fr.app N62 Nq65
        have hc66_185 : ¬ (v12 = (0 : Int32)) := own_nz1 hc16_59
        have hc67_193 : (if kk57 = (0 : Int32) then (1 : Int32) else (0 : Int32)) = (0 : Int32) := by rw [if_neg (own_p0 ps57)]
        have go68 : own_go p e below (s₁.setTop (entryFrame m #[(.int p1), (.int p2), (.int p3), (.int p4), (.int p5), (.int p6)] maxLocals)) (T65.setTop (mkF m 201 #[.val (.int p1), .val (.int p2), .val (.int p3), .val (.int p4), .val (.int p5), .val (.int p6), .val (.ref b1), .val (.int (1 : Int32)), .val (.int v12), .val (.int v13)] [(.int (1 : Int32))])) := by
          intro ttx ktx
          refine go61 ttx ?_
          show Steps p.tables e below (T59.setTop (mkF m 163 #[.val (.int p1), .val (.int p2), .val (.int p3), .val (.int p4), .val (.int p5), .val (.int p6), .val (.ref b1), .val (.int (1 : Int32)), .val (.int v12), .val (.int v13)] [])) _
          refine XS.aload X59.here hx rfl (hb hby at_163) rfl rfl ?_
          show Steps p.tables e below (T59.setTop (mkF m 165 #[.val (.int p1), .val (.int p2), .val (.int p3), .val (.int p4), .val (.int p5), .val (.int p6), .val (.ref b1), .val (.int (1 : Int32)), .val (.int v12), .val (.int v13)] [(.ref b1)])) _
          refine XS.iload X59.here hx rfl (hb hby at_165) rfl ?_
          show Steps p.tables e below (T59.setTop (mkF m 167 #[.val (.int p1), .val (.int p2), .val (.int p3), .val (.int p4), .val (.int p5), .val (.int p6), .val (.ref b1), .val (.int (1 : Int32)), .val (.int v12), .val (.int v13)] [(.int p5), (.ref b1)])) _
          refine XS.bipush X59.here hx rfl (hb hby at_167) ?_
          show Steps p.tables e below (T59.setTop (mkF m 169 #[.val (.int p1), .val (.int p2), .val (.int p3), .val (.int p4), .val (.int p5), .val (.int p6), .val (.ref b1), .val (.int (1 : Int32)), .val (.int v12), .val (.int v13)] [(.int (7 : Int32)), (.int p5), (.ref b1)])) _
          refine XS.iand X59.here hx rfl (hb hby at_169) rfl ?_
          show Steps p.tables e below (T59.setTop (mkF m 170 #[.val (.int p1), .val (.int p2), .val (.int p3), .val (.int p4), .val (.int p5), .val (.int p6), .val (.ref b1), .val (.int (1 : Int32)), .val (.int v12), .val (.int v13)] [(.int (p5 &&& (7 : Int32))), (.ref b1)])) _
          refine st62.trans ?_
          show Steps p.tables e below (T62.setTop (mkF m 173 #[.val (.int p1), .val (.int p2), .val (.int p3), .val (.int p4), .val (.int p5), .val (.int p6), .val (.ref b1), .val (.int (1 : Int32)), .val (.int v12), .val (.int v13)] [])) _
          refine XS.iload X62.here hx rfl (hb hby at_173) rfl ?_
          show Steps p.tables e below (T62.setTop (mkF m 175 #[.val (.int p1), .val (.int p2), .val (.int p3), .val (.int p4), .val (.int p5), .val (.int p6), .val (.ref b1), .val (.int (1 : Int32)), .val (.int v12), .val (.int v13)] [(.int (1 : Int32))])) _
          refine XS.ifNo X62.here hx rfl (hb hby at_175) rfl ((if0 _ _).trans (feq hc64_175).1) ?_
          show Steps p.tables e below (T62.setTop (mkF m 178 #[.val (.int p1), .val (.int p2), .val (.int p3), .val (.int p4), .val (.int p5), .val (.int p6), .val (.ref b1), .val (.int (1 : Int32)), .val (.int v12), .val (.int v13)] [])) _
          refine XS.aload X62.here hx rfl (hb hby at_178) rfl rfl ?_
          show Steps p.tables e below (T62.setTop (mkF m 180 #[.val (.int p1), .val (.int p2), .val (.int p3), .val (.int p4), .val (.int p5), .val (.int p6), .val (.ref b1), .val (.int (1 : Int32)), .val (.int v12), .val (.int v13)] [(.ref b1)])) _
          refine st65.trans ?_
          show Steps p.tables e below (T65.setTop (mkF m 183 #[.val (.int p1), .val (.int p2), .val (.int p3), .val (.int p4), .val (.int p5), .val (.int p6), .val (.ref b1), .val (.int (1 : Int32)), .val (.int v12), .val (.int v13)] [(.int (if kk57 = (0 : Int32) then (1 : Int32) else (0 : Int32)))])) _
          refine XS.iload X65.here hx rfl (hb hby at_183) rfl ?_
          show Steps p.tables e below (T65.setTop (mkF m 185 #[.val (.int p1), .val (.int p2), .val (.int p3), .val (.int p4), .val (.int p5), .val (.int p6), .val (.ref b1), .val (.int (1 : Int32)), .val (.int v12), .val (.int v13)] [(.int v12), (.int (if kk57 = (0 : Int32) then (1 : Int32) else (0 : Int32)))])) _
          refine XS.ifYes X65.here hx rfl (pc0 := 185) (pc' := 192) rfl (hb hby at_185) rfl ((if0 _ _).trans (feq hc66_185).2) (by decide) (by decide) ?_
          show Steps p.tables e below (T65.setTop (mkF m 192 #[.val (.int p1), .val (.int p2), .val (.int p3), .val (.int p4), .val (.int p5), .val (.int p6), .val (.ref b1), .val (.int (1 : Int32)), .val (.int v12), .val (.int v13)] [(.int (if kk57 = (0 : Int32) then (1 : Int32) else (0 : Int32)))])) _
          refine XS.iconst X65.here hx rfl (hb hby at_192) ?_
          show Steps p.tables e below (T65.setTop (mkF m 193 #[.val (.int p1), .val (.int p2), .val (.int p3), .val (.int p4), .val (.int p5), .val (.int p6), .val (.ref b1), .val (.int (1 : Int32)), .val (.int v12), .val (.int v13)] [(.int (0 : Int32)), (.int (if kk57 = (0 : Int32) then (1 : Int32) else (0 : Int32)))])) _
          refine XS.icmpNo X65.here hx rfl (hb hby at_193) rfl (teq hc67_193).2 ?_
          show Steps p.tables e below (T65.setTop (mkF m 196 #[.val (.int p1), .val (.int p2), .val (.int p3), .val (.int p4), .val (.int p5), .val (.int p6), .val (.ref b1), .val (.int (1 : Int32)), .val (.int v12), .val (.int v13)] [])) _
          refine XS.iconst X65.here hx rfl (hb hby at_196) ?_
          show Steps p.tables e below (T65.setTop (mkF m 197 #[.val (.int p1), .val (.int p2), .val (.int p3), .val (.int p4), .val (.int p5), .val (.int p6), .val (.ref b1), .val (.int (1 : Int32)), .val (.int v12), .val (.int v13)] [(.int (1 : Int32))])) _
          refine XS.goto X65.here hx rfl (pc0 := 197) (pc' := 201) rfl (hb hby at_197) (by decide) (by decide) ?_
          exact ktx
        have go69 : own_go p e below (s₁.setTop (entryFrame m #[(.int p1), (.int p2), (.int p3), (.int p4), (.int p5), (.int p6)] maxLocals)) (T65.setTop (mkF m 205 #[.val (.int p1), .val (.int p2), .val (.int p3), .val (.int p4), .val (.int p5), .val (.int p6), .val (.ref b1), .val (.int (1 : Int32)), .val (.int v12), .val (.int v13)] [(.int (1 : Int32))])) := by
          intro ttx ktx
          refine go68 ttx ?_
          show Steps p.tables e below (T65.setTop (mkF m 201 #[.val (.int p1), .val (.int p2), .val (.int p3), .val (.int p4), .val (.int p5), .val (.int p6), .val (.ref b1), .val (.int (1 : Int32)), .val (.int v12), .val (.int v13)] [(.int (1 : Int32))])) _
          refine XS.istore X65.here hx rfl (hb hby at_201) rfl (l' := #[.val (.int p1), .val (.int p2), .val (.int p3), .val (.int p4), .val (.int p5), .val (.int p6), .val (.ref b1), .val (.int (1 : Int32)), .val (.int v12), .val (.int v13)]) rfl ?_
          show Steps p.tables e below (T65.setTop (mkF m 203 #[.val (.int p1), .val (.int p2), .val (.int p3), .val (.int p4), .val (.int p5), .val (.int p6), .val (.ref b1), .val (.int (1 : Int32)), .val (.int v12), .val (.int v13)] [])) _
          refine XS.iload X65.here hx rfl (hb hby at_203) rfl ?_
          exact ktx
        obtain ⟨fs, hr, hrun, hended, hW, hsame⟩ := X65.leave (v := some (.int (1 : Int32))) (fun h => by rw [Bd.returns] at h; cases h)
        refine ⟨_, _, go69 _ ?_, hrun, hended, _, _, rfl, ?_, ⟨_, rfl⟩, hW, hsame.mono (by decide) (by decide)⟩
        · exact retN X65 hx (t := .boolean) Bd.returns (by simp) (hb hby at_205) hr
        · show Q0 Z p1 p2 p3 p4 p5 p6 h0 n0 _ T65.heap _
          rw [e65]
          exact ⟨rfl, N65⟩
set_option maxRecDepth 65536 in
set_option maxHeartbeats 40000000 in
theorem comes_1 {Post : Tables → Env → Array Value → State → Outcome → State → Prop} (hpost : ∀ tb e args s v u, (limb_1_1.after args s (.returned v) u = true ∧ limb_1_2.after args s (.returned v) u = true ∧ True) → FrameEnd s (.returned v) u (Jvm.fieldLocs frame_1_writes args s ++ Jvm.arrayLocs frame_1_arrays args s ++ Jvm.staticLocs frame_1_statics s) 16 128 → Post tb e args s (.returned v) u) :
    ArmFor flags0 classFile x code maxLocals ret World_1 tables_1 room_1 Calls_1 rest_1 Pre_1 Post := by
  intro l hfl _ _ p e ha hc hk s m args below hf hA hF happ hP
  obtain ⟨hcalls, hrest, hpre⟩ := hP
  obtain ⟨-, -, -, hnamed, -, -, -, hat⟩ := (Spec.applies_iff hf).mp happ
  obtain ⟨hg, hn⟩ := and_e (Cond.before_iff.mp (show (Jvm.Cond.and given_1 narrow_1).before args s = true from hpre))
  obtain ⟨ga0, gb0⟩ := and_e hg
  obtain ⟨ga1, gb1⟩ := and_e gb0
  obtain ⟨ga2, gb2⟩ := and_e gb1
  obtain ⟨ga3, gb3⟩ := and_e gb2
  obtain ⟨ga4, gb4⟩ := and_e gb3
  obtain ⟨ga5, gb5⟩ := and_e gb4
  obtain ⟨w0, w1, w2, w3, w4, w5, rfl⟩ : ∃ w0 w1 w2 w3 w4 w5 : Value, args = #[w0, w1, w2, w3, w4, w5] := by
    have hs : args.size = 6 := by simpa [Cond.value, given_1] using ga0
    obtain ⟨L⟩ := args
    match L, hs with
    | [w0, w1, w2, w3, w4, w5], _ => exact ⟨w0, w1, w2, w3, w4, w5, rfl⟩
  have hw := fun d (hd : d ∈ tables_1) => atoms_spec (ws := Jvm.Cond.code x code maxLocals ret :: tables_1) hat d (List.mem_cons_of_mem _ hd)
  have hfit : Fit s := fun {y c} hc i hi => by
    obtain ⟨ha, rfl⟩ := Array.getElem?_eq_some_iff.mp hc
    have q := List.all_eq_true.mp ((Array.all_eq_true_iff_forall_mem.mp hF) _ (Array.getElem_mem ha)) i (List.mem_range.mpr hi)
    simpa [Array.getElem?_eq_getElem hi] using q
  obtain ⟨i0, ei0⟩ := is_v ga1
  obtain rfl : w0 = (.int i0) := Option.some.inj ei0
  obtain ⟨i1, ei1⟩ := is_v ga2
  obtain rfl : w1 = (.int i1) := Option.some.inj ei1
  obtain ⟨i2, ei2⟩ := is_v ga3
  obtain rfl : w2 = (.int i2) := Option.some.inj ei2
  obtain ⟨i3, ei3⟩ := is_v ga4
  obtain rfl : w3 = (.int i3) := Option.some.inj ei3
  obtain ⟨i4, ei4⟩ := is_v ga5
  obtain rfl : w4 = (.int i4) := Option.some.inj ei4
  obtain ⟨i5, ei5⟩ := is_v gb5
  obtain rfl : w5 = (.int i5) := Option.some.inj ei5
  obtain ⟨n, o, h1, h2, h3, _, L, rfl, ⟨rfl, N⟩, hq⟩ := rm0 l s _ hw tables_1 i0 i1 i2 i3 i4 i5  s.heap s.heap.size (Nat.le_refl _)  p e ha hc hk s m _ below hf ((Spec.applies_iff_loose hf).mp happ).1 ⟨rfl, State.Warmed39.refl s, rfl⟩ trivial
  refine ⟨n, _, h1, h2, h3, hpost _ _ _ _ _ _ ⟨Cond.after_iff.mpr rfl, Cond.after_iff.mpr (eq_i res_at (Term.int_eval (1)) rfl), trivial⟩ ⟨hq.1, hq.2.1, (hq.2.2.sift fun y hy => Or.inr (N y hy)).mono (by decide) (by decide)⟩⟩
theorem main_1_1 : Claimed_1_1 := comes_1 fun _ _ _ _ _ _ h hF => ⟨h.1, hF⟩
theorem main_1_2 : Claimed_1_2 := comes_1 fun _ _ _ _ _ _ h hF => ⟨h.2.1, hF⟩
end Jvm.Pilot.@@N@@
namespace Jvm.Pilot.@@N@@
open Jvm Jvm.ClassFile Sem Op Lib Jvm.Free Jvm.Stand Jvm.Pilot.@@N@@.Jvm.D
/-! MADE BY PROGRAM (witnessworld.py) out of the Statement's table words and the real class files: 16 classes; the members and pool entries that the words name. The judged class is class 1, her method 1. -/
namespace start1
open Jvm.ClassFile
def u (s : String) : CpInfo := .utf8 (stringToUtf16 s)
/-- a pool by its gaps: so many unusable entries, then the entry; so many at the end -/
def gap : Nat → List CpInfo → List CpInfo
  | 0, r => r
  | n + 1, r => .unusable :: gap n r
def poolList (es : List (Nat × CpInfo)) (last : Nat) : List CpInfo := es.foldr (fun e r => gap e.1 (e.2 :: r)) (gap last [])
def pool (es : List (Nat × CpInfo)) (last : Nat) : Array CpInfo := ⟨poolList es last⟩
def fileOf (pool : Array CpInfo) (this : Nat) (attrs : Array Attribute := #[]) (ms : Array MethodInfo := #[]) (fl : Nat := 33) (sup : Nat := 0) (ifs : Array Nat := #[]) (fds : Array FieldInfo := #[]) : ClassFile where
  minorVersion := 0
  majorVersion := 65
  constantPool := pool
  accessFlags := fl
  thisClass := this
  superClass := sup
  interfaces := ifs
  fields := fds
  methods := ms
  attributes := attrs
def plain (name : String) (sup : Option ClassId) : Class where
  name := name
  kind := .ordinary
  loader := none
  accessFlags := 33
  super := sup
  interfaces := #[]
  cf := none
  fields := #[]
  methods := #[]
  instanceTypes := #[]
  staticTypes := #[]
  resolved := #[]
  callSites := []
  init := .initialized
  statics := none
  mirror := none

def pool0 : Array CpInfo := pool [(5, u "<init>"), (0, u "()V"), (1, .class_ 10), (1, u "java/lang/Object")] 113

def k0c0 : Code := { maxStack := 0, maxLocals := 1, code := object_method_1_code, exceptionTable := #[], attributes := #[] }
def k0m0 : Method := { name := "<init>", desc := "()V", sig := { parameters := [], returnType := none }, accessFlags := 1, code := some k0c0 }
/-- java/lang/Object -/
def k0 : Class := { plain "java/lang/Object" none with
  accessFlags := 33
  interfaces := #[]
  cf := some (fileOf pool0 8 #[] #[{ accessFlags := 1, nameIndex := 5, descriptorIndex := 6, attributes := #[] }] 33 0 #[] #[])
  fields := #[]
  methods := #[k0m0]
  instanceTypes := #[]
  staticTypes := #[]
  resolved := Array.replicate 124 none
  statics := none }

def pool1 : Array CpInfo := pool [(2, .class_ 4), (0, .nameAndType 5 6), (0, u "java/lang/Object"), (0, u "<init>"), (0, u "()V"), (0, .class_ 8), (0, u "com/example/structweave/structweave/wddx/PlaceRing"), (0, .methodref 7 3), (0, .methodref 7 11), (0, .nameAndType 12 13), (0, u "isEmpty"), (0, u "()Z"), (0, .methodref 7 15), (0, .nameAndType 16 17), (0, u "makeRoom"), (0, u "(I)V"), (0, .integer 65535), (0, .methodref 7 20), (0, .nameAndType 21 22), (0, u "note"), (0, u "(II)V"), (0, .class_ 24), (0, u "com/example/structweave/structweave/wddx/PlaceRingIsEmptyPinLaw"), (2, u "law"), (0, u "(IIIIII)Z")] 3

def k1m0 : Method := { name := "<init>", desc := "()V", sig := { parameters := [], returnType := none }, accessFlags := 1, code := none }
def k1c1 : Code := { maxStack := 3, maxLocals := 10, code := code, exceptionTable := #[], attributes := #[] }
def k1m1 : Method := { name := "law", desc := "(IIIIII)Z", sig := { parameters := [.int, .int, .int, .int, .int, .int], returnType := some .boolean }, accessFlags := 9, code := some k1c1 }
/-- com/example/structweave/structweave/wddx/PlaceRingIsEmptyPinLaw -/
def k1 : Class := { plain "com/example/structweave/structweave/wddx/PlaceRingIsEmptyPinLaw" (some 0) with
  accessFlags := 49
  interfaces := #[]
  cf := some (fileOf pool1 23 #[] #[{ accessFlags := 1, nameIndex := 5, descriptorIndex := 6, attributes := #[] }, { accessFlags := 9, nameIndex := 27, descriptorIndex := 28, attributes := #[] }] 49 2 #[] #[])
  fields := #[]
  methods := #[k1m0, k1m1]
  instanceTypes := #[]
  staticTypes := #[]
  resolved := Array.replicate 32 none
  statics := none }

def pool2 : Array CpInfo := pool [(1, .methodref 2 3), (0, .class_ 4), (0, .nameAndType 5 6), (0, u "java/lang/Object"), (0, u "<init>"), (0, u "()V"), (0, .fieldref 8 9), (0, .class_ 10), (0, .nameAndType 11 12), (0, u "com/example/structweave/structweave/wddx/PlaceRing"), (0, u "places"), (0, u "[J"), (0, .fieldref 8 14), (0, .nameAndType 15 16), (0, u "oldest"), (0, u "I"), (0, .fieldref 8 18), (0, .nameAndType 19 16), (0, u "count"), (0, .methodref 8 21), (0, .nameAndType 22 23), (0, u "pack"), (0, u "(II)J"), (0, .methodref 8 25), (0, .nameAndType 26 27), (0, u "place"), (0, u "(I)J"), (11, .methodref 40 41), (0, .class_ 42), (0, .nameAndType 43 27), (0, u "java/lang/Integer"), (0, u "toUnsignedLong"), (11, u "(II)V"), (2, u "note"), (1, u "makeRoom"), (0, u "(I)V"), (1, u "isEmpty"), (0, u "()Z")] 4

def k2c0 : Code := { maxStack := 2, maxLocals := 1, code := prog_44_method_1_code, exceptionTable := #[], attributes := #[] }
def k2m0 : Method := { name := "<init>", desc := "()V", sig := { parameters := [], returnType := none }, accessFlags := 0, code := some k2c0 }
def k2c1 : Code := { maxStack := 4, maxLocals := 3, code := prog_44_method_2_code, exceptionTable := #[], attributes := #[] }
def k2m1 : Method := { name := "note", desc := "(II)V", sig := { parameters := [.int, .int], returnType := none }, accessFlags := 0, code := some k2c1 }
def k2c2 : Code := { maxStack := 4, maxLocals := 4, code := prog_44_method_3_code, exceptionTable := #[], attributes := #[] }
def k2m2 : Method := { name := "makeRoom", desc := "(I)V", sig := { parameters := [.int], returnType := none }, accessFlags := 0, code := some k2c2 }
def k2c3 : Code := { maxStack := 1, maxLocals := 1, code := prog_44_method_4_code, exceptionTable := #[], attributes := #[] }
def k2m3 : Method := { name := "isEmpty", desc := "()Z", sig := { parameters := [], returnType := some .boolean }, accessFlags := 0, code := some k2c3 }
def k2c4 : Code := { maxStack := 3, maxLocals := 2, code := prog_44_method_7_code, exceptionTable := #[], attributes := #[] }
def k2m4 : Method := { name := "place", desc := "(I)J", sig := { parameters := [.int], returnType := some .long }, accessFlags := 2, code := some k2c4 }
def k2c5 : Code := { maxStack := 4, maxLocals := 2, code := prog_44_method_8_code, exceptionTable := #[], attributes := #[] }
def k2m5 : Method := { name := "pack", desc := "(II)J", sig := { parameters := [.int, .int], returnType := some .long }, accessFlags := 10, code := some k2c5 }
/-- com/example/structweave/structweave/wddx/PlaceRing -/
def k2 : Class := { plain "com/example/structweave/structweave/wddx/PlaceRing" (some 0) with
  accessFlags := 48
  interfaces := #[]
  cf := some (fileOf pool2 8 #[] #[{ accessFlags := 0, nameIndex := 5, descriptorIndex := 6, attributes := #[] }, { accessFlags := 0, nameIndex := 58, descriptorIndex := 55, attributes := #[] }, { accessFlags := 0, nameIndex := 60, descriptorIndex := 61, attributes := #[] }, { accessFlags := 0, nameIndex := 63, descriptorIndex := 64, attributes := #[] }, { accessFlags := 2, nameIndex := 26, descriptorIndex := 27, attributes := #[] }, { accessFlags := 10, nameIndex := 22, descriptorIndex := 23, attributes := #[] }] 48 2 #[] #[{ accessFlags := 2, nameIndex := 11, descriptorIndex := 12, attributes := #[] }, { accessFlags := 2, nameIndex := 15, descriptorIndex := 16, attributes := #[] }, { accessFlags := 2, nameIndex := 19, descriptorIndex := 16, attributes := #[] }])
  fields := #[{ name := "places", type := (.array .long), accessFlags := 2, slot := 0, constantValue := 0 }, { name := "oldest", type := .int, accessFlags := 2, slot := 1, constantValue := 0 }, { name := "count", type := .int, accessFlags := 2, slot := 2, constantValue := 0 }]
  methods := #[k2m0, k2m1, k2m2, k2m3, k2m4, k2m5]
  instanceTypes := #[(.array .long), .int, .int]
  staticTypes := #[]
  resolved := Array.replicate 69 none
  statics := none }

def pool3 : Array CpInfo := pool [(1, .class_ 2), (0, u "java/io/Serializable"), (0, .class_ 4), (0, u "java/lang/Object")] 2

/-- java/io/Serializable -/
def k3 : Class := { plain "java/io/Serializable" (some 0) with
  accessFlags := 1537
  interfaces := #[]
  cf := some (fileOf pool3 1 #[] #[] 1537 3 #[] #[])
  fields := #[]
  methods := #[]
  instanceTypes := #[]
  staticTypes := #[]
  resolved := Array.replicate 7 none
  statics := none }

def pool4 : Array CpInfo := pool [(2, .class_ 4), (1, u "java/lang/Object"), (0, u "<init>"), (0, u "()V"), (1, .class_ 10), (1, u "java/lang/Number"), (2, .class_ 14), (0, u "java/io/Serializable"), (0, u "serialVersionUID"), (0, u "J")] 20

def k4m0 : Method := { name := "<init>", desc := "()V", sig := { parameters := [], returnType := none }, accessFlags := 1, code := none }
/-- java/lang/Number -/
def k4 : Class := { plain "java/lang/Number" (some 0) with
  accessFlags := 1057
  interfaces := #[3]
  cf := some (fileOf pool4 8 #[] #[{ accessFlags := 1, nameIndex := 5, descriptorIndex := 6, attributes := #[] }] 1057 2 #[13] #[{ accessFlags := 26, nameIndex := 15, descriptorIndex := 16, attributes := #[] }])
  fields := #[{ name := "serialVersionUID", type := .long, accessFlags := 26, slot := 0, constantValue := 0 }]
  methods := #[k4m0]
  instanceTypes := #[]
  staticTypes := #[.long]
  resolved := Array.replicate 37 none
  statics := none }

def pool5 : Array CpInfo := pool [(1, .class_ 2), (0, u "java/lang/Comparable"), (0, .class_ 4), (0, u "java/lang/Object")] 7

/-- java/lang/Comparable -/
def k5 : Class := { plain "java/lang/Comparable" (some 0) with
  accessFlags := 1537
  interfaces := #[]
  cf := some (fileOf pool5 1 #[] #[] 1537 3 #[] #[])
  fields := #[]
  methods := #[]
  instanceTypes := #[]
  staticTypes := #[]
  resolved := Array.replicate 12 none
  statics := none }

def pool6 : Array CpInfo := pool [(1, .class_ 2), (0, u "java/lang/constant/Constable"), (0, .class_ 4), (0, u "java/lang/Object")] 6

/-- java/lang/constant/Constable -/
def k6 : Class := { plain "java/lang/constant/Constable" (some 0) with
  accessFlags := 1537
  interfaces := #[]
  cf := some (fileOf pool6 1 #[] #[] 1537 3 #[] #[])
  fields := #[]
  methods := #[]
  instanceTypes := #[]
  staticTypes := #[]
  resolved := Array.replicate 11 none
  statics := none }

def pool7 : Array CpInfo := pool [(1, .class_ 2), (0, u "java/lang/constant/ConstantDesc"), (0, .class_ 4), (0, u "java/lang/Object")] 32

/-- java/lang/constant/ConstantDesc -/
def k7 : Class := { plain "java/lang/constant/ConstantDesc" (some 0) with
  accessFlags := 1537
  interfaces := #[]
  cf := some (fileOf pool7 1 #[] #[] 1537 3 #[] #[])
  fields := #[]
  methods := #[]
  instanceTypes := #[]
  staticTypes := #[]
  resolved := Array.replicate 37 none
  statics := none }

def pool8 : Array CpInfo := pool [(1, .class_ 2), (0, u "java/lang/Integer"), (16, u "digits"), (0, u "[C"), (19, u "toUnsignedLong"), (0, u "(I)J"), (43, u "DigitOnes"), (0, u "[B"), (2, u "DigitTens"), (99, .class_ 190), (0, u "java/lang/Integer$IntegerCache"), (3, u "I"), (8, .class_ 204), (0, u "java/lang/Number"), (2, u "value"), (54, .long 4294967295), (39, u "TYPE"), (0, u "Ljava/lang/Class;"), (0, .class_ 305), (0, u "java/lang/Comparable"), (0, .class_ 307), (0, u "java/lang/constant/Constable"), (0, .class_ 309), (0, u "java/lang/constant/ConstantDesc"), (0, u "MIN_VALUE"), (1, u "MAX_VALUE"), (3, u "SIZE"), (1, u "BYTES"), (1, u "serialVersionUID"), (0, u "J")] 131

def k8c0 : Code := { maxStack := 4, maxLocals := 1, code := jdk_33_method_42_code, exceptionTable := #[], attributes := #[] }
def k8m0 : Method := { name := "toUnsignedLong", desc := "(I)J", sig := { parameters := [.int], returnType := some .long }, accessFlags := 9, code := some k8c0 }
/-- java/lang/Integer -/
def k8 : Class := { plain "java/lang/Integer" (some 4) with
  accessFlags := 49
  interfaces := #[5, 6, 7]
  cf := some (fileOf pool8 1 #[.nestMembers #[189]] #[{ accessFlags := 9, nameIndex := 40, descriptorIndex := 41, attributes := #[] }] 49 203 #[304, 306, 308] #[{ accessFlags := 25, nameIndex := 310, descriptorIndex := 194, attributes := #[] }, { accessFlags := 25, nameIndex := 312, descriptorIndex := 194, attributes := #[] }, { accessFlags := 25, nameIndex := 302, descriptorIndex := 303, attributes := #[] }, { accessFlags := 24, nameIndex := 19, descriptorIndex := 20, attributes := #[] }, { accessFlags := 24, nameIndex := 89, descriptorIndex := 86, attributes := #[] }, { accessFlags := 24, nameIndex := 85, descriptorIndex := 86, attributes := #[] }, { accessFlags := 18, nameIndex := 207, descriptorIndex := 194, attributes := #[] }, { accessFlags := 25, nameIndex := 316, descriptorIndex := 194, attributes := #[] }, { accessFlags := 25, nameIndex := 318, descriptorIndex := 194, attributes := #[] }, { accessFlags := 26, nameIndex := 320, descriptorIndex := 321, attributes := #[] }])
  fields := #[{ name := "MIN_VALUE", type := .int, accessFlags := 25, slot := 0, constantValue := 0 }, { name := "MAX_VALUE", type := .int, accessFlags := 25, slot := 1, constantValue := 0 }, { name := "TYPE", type := (.object "java/lang/Class"), accessFlags := 25, slot := 2, constantValue := 0 }, { name := "digits", type := (.array .char), accessFlags := 24, slot := 3, constantValue := 0 }, { name := "DigitTens", type := (.array .byte), accessFlags := 24, slot := 4, constantValue := 0 }, { name := "DigitOnes", type := (.array .byte), accessFlags := 24, slot := 5, constantValue := 0 }, { name := "value", type := .int, accessFlags := 18, slot := 0, constantValue := 0 }, { name := "SIZE", type := .int, accessFlags := 25, slot := 6, constantValue := 0 }, { name := "BYTES", type := .int, accessFlags := 25, slot := 7, constantValue := 0 }, { name := "serialVersionUID", type := .long, accessFlags := 26, slot := 8, constantValue := 0 }]
  methods := #[k8m0]
  instanceTypes := #[.int]
  staticTypes := #[.int, .int, (.object "java/lang/Class"), (.array .char), (.array .byte), (.array .byte), .int, .int, .long]
  resolved := Array.replicate 453 none
  statics := none }

def pool9 : Array CpInfo := pool [(1, u "java/lang/Cloneable"), (0, .class_ 1), (0, u "java/lang/Object"), (0, .class_ 3)] 3

/-- java/lang/Cloneable -/
def k9 : Class := { plain "java/lang/Cloneable" (some 0) with
  accessFlags := 1537
  interfaces := #[]
  cf := some (fileOf pool9 2 #[] #[] 1537 4 #[] #[])
  fields := #[]
  methods := #[]
  instanceTypes := #[]
  staticTypes := #[]
  resolved := Array.replicate 8 none
  statics := none }

/-- the primitive byte -/
def k10 : Class := { plain "byte" none with kind := .primitive 'B', accessFlags := 0x411 }
/-- [B -/
def k11 : Class := { plain "[B" (some 0) with kind := .array 10 .byte, interfaces := #[9, 3], accessFlags := 1041 }

/-- the primitive int -/
def k12 : Class := { plain "int" none with kind := .primitive 'I', accessFlags := 0x411 }
/-- [I -/
def k13 : Class := { plain "[I" (some 0) with kind := .array 12 .int, interfaces := #[9, 3], accessFlags := 1041 }

/-- the primitive long -/
def k14 : Class := { plain "long" none with kind := .primitive 'J', accessFlags := 0x411 }
/-- [J -/
def k15 : Class := { plain "[J" (some 0) with kind := .array 14 .long, interfaces := #[9, 3], accessFlags := 1041 }

def heap : Heap := #[]
def classes : Array Class := #[k0, k1, k2, k3, k4, k5, k6, k7, k8, k9, k10, k11, k12, k13, k14, k15]
def interned : List (Array UInt16 × Addr) := []
def slotsUsed : Nat := 0
def theMethod : MethodId := ⟨1, 1⟩
def args0 : Array Value := #[.int 3, .int 5, .int 7, .int 9, .int 2, .int 4]
def aboutOver (below : List Frame) : State where
  vm := { classes := classes, interned := interned.toArray }
  heap := heap
  slotsUsed := slotsUsed
  threads := #[{ frames := .invoking theMethod args0 :: below }]
def below0 : List Frame := [.native { method := ⟨0, 0⟩, args := #[] }]
def about1 : State := aboutOver below0
def p0 : Program := .bare "" "" ""
def e0 : Env := launch0.env 0 0 0
theorem w_frames : about1.frames = Frame.invoking theMethod args0 :: below0 := rfl
set_option maxRecDepth 65536 in
theorem w_args : argsFit about1.vm theMethod args0 = true := by decide +kernel
set_option maxRecDepth 65536 in
theorem w_heap : heapFits about1 = true := by decide +kernel
set_option maxRecDepth 65536 in
theorem w_runnable : about1.curStatus? = some .runnable := by decide +kernel
set_option maxRecDepth 65536 in
theorem w_alone : about1.alone = true := by decide +kernel
set_option maxRecDepth 65536 in
theorem w_named : about1.methodNamed? x = some theMethod := by decide +kernel
set_option maxRecDepth 65536 in
theorem w_hears : about1.hears theMethod below0 = true := by decide +kernel
set_option maxRecDepth 65536 in
theorem w_ripe : about1.ripe theMethod args0 below0 = true := by decide +kernel
theorem w_running : about1.status = .running := rfl
set_option maxRecDepth 65536 in
theorem w_room : about1.hasRoom e0.platform room_1 = true :=
  launch0.hasRoom_least _ room_1 (by decide +kernel) (by decide +kernel) (by decide +kernel) (by decide +kernel) (by decide +kernel) (by decide +kernel)
theorem allAtoms_all (ts : List Jvm.Cond) (a : Array Jvm.Value) (st : Jvm.State) : (allAtoms ts).before a st = ts.all (fun c => c.before a st) := by
  induction ts with
  | nil => rfl
  | cons c t ih =>
    show (Jvm.Cond.and c (allAtoms t)).before a st = _
    rw [Jvm.Cond.before_and, ih, List.all_cons]
def words1 : List Jvm.Cond := Jvm.Cond.code x code maxLocals ret :: tables_1
/-- a 'code' word, met by the world's own term for the bytes: nothing is compared byte by byte -/
theorem code_word {y : MethodName} {bytes : ByteArray} {mx : Nat} {rt : Option FieldType} {a : Array Value} {s : State} {m : MethodId} {meth : Method} {c : Code} (h1 : s.methodNamed? y = some m) (h2 : s.vm.method? m = some meth) (h3 : meth.code = some c) (h4 : c.code = bytes)
    (h5 : (c.maxLocals == mx && c.exceptionTable.isEmpty && decide (c.maxStack ≤ mostOperands) && decide (meth.sig.returnType = rt) && !meth.locks && decide (parseMethodDescriptor y.desc = some meth.sig)) = true) : (Jvm.Cond.code y bytes mx rt).before a s = true := by
  simp only [Bool.and_eq_true, beq_iff_eq, Bool.not_eq_true', decide_eq_true_eq] at h5
  obtain ⟨⟨⟨⟨⟨g1, g2⟩, g3⟩, g4⟩, g5⟩, g6⟩ := h5
  simp [Cond.before, Cond.holds, Cond.value, h1, h2, h3, h4, g1, g2, g3, g4, g5, g6]
def isCode : Jvm.Cond → Bool
  | .code _ _ _ _ => true
  | _ => false
theorem all_split {L : List Jvm.Cond} {P : Jvm.Cond → Bool} (h1 : L.all (fun c => isCode c || P c) = true) (h2 : ∀ c ∈ L.filter isCode, P c = true) : L.all P = true := by
  refine List.all_eq_true.mpr fun c hc => ?_
  have h := List.all_eq_true.mp h1 c hc
  rcases Bool.eq_false_or_eq_true (isCode c) with hi | hi
  · exact h2 c (List.mem_filter.mpr ⟨hc, hi⟩)
  · simpa [hi] using h
set_option maxRecDepth 65536 in
theorem w_c0 : (Jvm.Cond.code x code maxLocals ret).before args0 about1 = true := code_word (m := ⟨1, 1⟩) (meth := k1m1) (c := k1c1) (by decide +kernel) rfl rfl rfl (by decide +kernel)
set_option maxRecDepth 65536 in
theorem w_c1 : (Jvm.Cond.code ({ cls := "com/example/structweave/structweave/wddx/PlaceRing", name := "<init>", desc := "()V" } : Jvm.MethodName) prog_44_method_1_code (1 : Nat) (Option.none : Option Jvm.ClassFile.FieldType)).before args0 about1 = true := code_word (m := ⟨2, 0⟩) (meth := k2m0) (c := k2c0) (by decide +kernel) rfl rfl rfl (by decide +kernel)
set_option maxRecDepth 65536 in
theorem w_c2 : (Jvm.Cond.code ({ cls := "java/lang/Object", name := "<init>", desc := "()V" } : Jvm.MethodName) object_method_1_code (1 : Nat) (Option.none : Option Jvm.ClassFile.FieldType)).before args0 about1 = true := code_word (m := ⟨0, 0⟩) (meth := k0m0) (c := k0c0) (by decide +kernel) rfl rfl rfl (by decide +kernel)
set_option maxRecDepth 65536 in
theorem w_c3 : (Jvm.Cond.code ({ cls := "com/example/structweave/structweave/wddx/PlaceRing", name := "isEmpty", desc := "()Z" } : Jvm.MethodName) prog_44_method_4_code (1 : Nat) (Option.some Jvm.ClassFile.FieldType.boolean)).before args0 about1 = true := code_word (m := ⟨2, 3⟩) (meth := k2m3) (c := k2c3) (by decide +kernel) rfl rfl rfl (by decide +kernel)
set_option maxRecDepth 65536 in
theorem w_c4 : (Jvm.Cond.code ({ cls := "com/example/structweave/structweave/wddx/PlaceRing", name := "makeRoom", desc := "(I)V" } : Jvm.MethodName) prog_44_method_3_code (4 : Nat) (Option.none : Option Jvm.ClassFile.FieldType)).before args0 about1 = true := code_word (m := ⟨2, 2⟩) (meth := k2m2) (c := k2c2) (by decide +kernel) rfl rfl rfl (by decide +kernel)
set_option maxRecDepth 65536 in
theorem w_c5 : (Jvm.Cond.code ({ cls := "com/example/structweave/structweave/wddx/PlaceRing", name := "note", desc := "(II)V" } : Jvm.MethodName) prog_44_method_2_code (3 : Nat) (Option.none : Option Jvm.ClassFile.FieldType)).before args0 about1 = true := code_word (m := ⟨2, 1⟩) (meth := k2m1) (c := k2c1) (by decide +kernel) rfl rfl rfl (by decide +kernel)
set_option maxRecDepth 65536 in
theorem w_c6 : (Jvm.Cond.code ({ cls := "com/example/structweave/structweave/wddx/PlaceRing", name := "pack", desc := "(II)J" } : Jvm.MethodName) prog_44_method_8_code (2 : Nat) (Option.some Jvm.ClassFile.FieldType.long)).before args0 about1 = true := code_word (m := ⟨2, 5⟩) (meth := k2m5) (c := k2c5) (by decide +kernel) rfl rfl rfl (by decide +kernel)
set_option maxRecDepth 65536 in
theorem w_c7 : (Jvm.Cond.code ({ cls := "java/lang/Integer", name := "toUnsignedLong", desc := "(I)J" } : Jvm.MethodName) jdk_33_method_42_code (1 : Nat) (Option.some Jvm.ClassFile.FieldType.long)).before args0 about1 = true := code_word (m := ⟨8, 0⟩) (meth := k8m0) (c := k8c0) (by decide +kernel) rfl rfl rfl (by decide +kernel)
set_option maxRecDepth 65536 in
theorem w_c8 : (Jvm.Cond.code ({ cls := "com/example/structweave/structweave/wddx/PlaceRing", name := "place", desc := "(I)J" } : Jvm.MethodName) prog_44_method_7_code (2 : Nat) (Option.some Jvm.ClassFile.FieldType.long)).before args0 about1 = true := code_word (m := ⟨2, 4⟩) (meth := k2m4) (c := k2c4) (by decide +kernel) rfl rfl rfl (by decide +kernel)
def codes1 : List Jvm.Cond := [Jvm.Cond.code x code maxLocals ret, Jvm.Cond.code ({ cls := "com/example/structweave/structweave/wddx/PlaceRing", name := "<init>", desc := "()V" } : Jvm.MethodName) prog_44_method_1_code (1 : Nat) (Option.none : Option Jvm.ClassFile.FieldType), Jvm.Cond.code ({ cls := "java/lang/Object", name := "<init>", desc := "()V" } : Jvm.MethodName) object_method_1_code (1 : Nat) (Option.none : Option Jvm.ClassFile.FieldType), Jvm.Cond.code ({ cls := "com/example/structweave/structweave/wddx/PlaceRing", name := "isEmpty", desc := "()Z" } : Jvm.MethodName) prog_44_method_4_code (1 : Nat) (Option.some Jvm.ClassFile.FieldType.boolean), Jvm.Cond.code ({ cls := "com/example/structweave/structweave/wddx/PlaceRing", name := "makeRoom", desc := "(I)V" } : Jvm.MethodName) prog_44_method_3_code (4 : Nat) (Option.none : Option Jvm.ClassFile.FieldType), Jvm.Cond.code ({ cls := "com/example/structweave/structweave/wddx/PlaceRing", name := "note", desc := "(II)V" } : Jvm.MethodName) prog_44_method_2_code (3 : Nat) (Option.none : Option Jvm.ClassFile.FieldType), Jvm.Cond.code ({ cls := "com/example/structweave/structweave/wddx/PlaceRing", name := "pack", desc := "(II)J" } : Jvm.MethodName) prog_44_method_8_code (2 : Nat) (Option.some Jvm.ClassFile.FieldType.long), Jvm.Cond.code ({ cls := "java/lang/Integer", name := "toUnsignedLong", desc := "(I)J" } : Jvm.MethodName) jdk_33_method_42_code (1 : Nat) (Option.some Jvm.ClassFile.FieldType.long), Jvm.Cond.code ({ cls := "com/example/structweave/structweave/wddx/PlaceRing", name := "place", desc := "(I)J" } : Jvm.MethodName) prog_44_method_7_code (2 : Nat) (Option.some Jvm.ClassFile.FieldType.long)]
set_option maxRecDepth 65536 in
theorem codes_eq : words1.filter isCode = codes1 := rfl
theorem w_codes : ∀ c ∈ words1.filter isCode, c.before args0 about1 = true := by
  rw [codes_eq]
  intro c hc
  simp only [codes1, List.mem_cons, List.not_mem_nil, or_false] at hc
  rcases hc with rfl | rfl | rfl | rfl | rfl | rfl | rfl | rfl | rfl
  · exact w_c0
  · exact w_c1
  · exact w_c2
  · exact w_c3
  · exact w_c4
  · exact w_c5
  · exact w_c6
  · exact w_c7
  · exact w_c8
set_option maxRecDepth 65536 in
theorem w_t1 : (words1.take 24).all (fun c => isCode c || c.before args0 about1) = true := by decide +kernel
set_option maxRecDepth 65536 in
theorem w_t2 : (words1.drop 24).all (fun c => isCode c || c.before args0 about1) = true := by decide +kernel
theorem w_tables : (allAtoms (Jvm.Cond.code x code maxLocals ret :: tables_1)).before args0 about1 = true := by
  rw [allAtoms_all]
  show words1.all (fun c => c.before args0 about1) = true
  refine all_split ?_ w_codes
  rw [← List.take_append_drop 24 words1, List.all_append, w_t1, w_t2]
  rfl
set_option maxRecDepth 65536 in
theorem w_case : (Jvm.Cond.and given_1 narrow_1).before args0 about1 = true := by decide +kernel
theorem w_applies : (headSpec (Jvm.Cond.code x code maxLocals ret :: tables_1) room_1).applies x e0.platform about1 = true :=
  (Spec.applies_iff w_frames).mpr ⟨w_running, w_runnable, w_alone, w_named, w_hears, w_ripe, w_room, w_tables⟩
theorem atStart : AtStart classFile x code maxLocals ret World_1 tables_1 room_1 Calls_1 rest_1 Pre_1 launch0 p0 e0 about1 theMethod args0 below0 :=
  ⟨lists_1, trivial, launch0.admits_env _ _ _, launch0.least_env, fairChoices_fair.cas, fairChoices_fair.clock, w_frames, w_args, w_heap, w_applies, trivial, trivial, w_case⟩
end start1
theorem witness_1 : WitnessClaimed_1 := ⟨start1.p0, start1.e0, start1.about1, start1.theMethod, start1.args0, start1.below0, start1.atStart⟩
end Jvm.Pilot.@@N@@
