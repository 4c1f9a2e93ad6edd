import JvmDerived
import JvmDerived.Pilot.@@N@@Statement
import JvmDerived.Pilot.@@N@@Code
set_option linter.unusedVariables false
set_option linter.unusedSimpArgs false
namespace Jvm.RoadKit
open Sem ClassFile Op Lib Jvm.Stand Jvm.Free Jvm.LawKit
section New
variable {p : Program} {l : Launch} {e : Env} {R : Room} {s : State} {m : MethodId} {args : Array Value} {below : List Frame} {meth : Method} {c : Code} {T : State} {locs : List Loc} {cells slots : Nat}
theorem retI (X : Stand p l e R s m args below meth c T locs cells slots) (hx : p.tables.exec = Jvm.exec) {pc : Nat} {Ls : Array Slot} {z : Int32} {rest : List Value} (hret : meth.sig.returnType = some .int) (hd : decode c.code pc = .ok (.ireturn, 1)) {fs : List Frame}
    (hl : ∀ (f : JFrame) (acts : List Action), f.method = m → f.locked = none → f.entered = [] → (doReturn e (T.setTop f) acts (some (.int z))).1 = T.setFrames fs) : Steps p.tables e below (T.setTop (mkF m pc Ls (.int z :: rest))) (T.setFrames fs) := by
  have hm' : T.vm.method? m = some meth := X.method'
  have hn : narrow .int (.int z) = .int z := rfl
  show Steps p.tables e below (T.setTop { method := m, pc := pc, locals := Ls, stack := _ :: rest, locked := none }) _
  jvm_step X.here [X.here.top, hx, hd, hm', hret, hn]
  first | (intro acts; rw [hl _ acts rfl rfl rfl]) | rw [hl _ _ rfl rfl rfl]
  exact Steps.refl _
end New
end Jvm.RoadKit
namespace Jvm.Pilot.@@N@@
open Jvm Jvm.ClassFile Sem Op Lib Jvm.Free Jvm.Stand Jvm.LawKit Jvm.RoadKit Bundle Jvm.Pilot.@@N@@.Jvm.D
/-- from the state A the run comes to the state B -/
def own_go (p : Program) (e : Env) (below : List Frame) (A B : State) : Prop := ∀ t, Steps p.tables e below B t → Steps p.tables e below A t
theorem own_wide {p : Program} {l : Launch} {e : Env} {R : Room} {s : State} {m : MethodId} {args : Array Value} {below : List Frame} {meth : Method} {c : Code} {T : State} {locs : List Loc} {cells slots k n : Nat} (X : Stand p l e R s m args below meth c T locs cells slots) (h1 : cells ≤ k) (h2 : slots ≤ n) : Stand p l e R s m args below meth c T locs k n :=
  { X with same := X.same.weaken (fun _ h _ => h) h1 h2 }
theorem own_hp {T : State} {h : Heap} {a : Addr} {c : Cell} (e : T.heap = h) (q : h[a]? = some c) : T.heap[a]? = some c := by rw [e]; exact q
theorem own_getD {α : Type} (f : α → Value) : ∀ (l : List α) (d : α) (k : Nat), (l.map f).getD k (f d) = f (l.getD k d)
  | [], _, _ => rfl
  | _ :: _, _, 0 => rfl
  | _ :: t, d, k + 1 => own_getD f t d k
def own_bit (c : Int32) : Int32 := if (c &&& (32768 : Int32)) = (0 : Int32) then (c <<< ((1 : Int32) &&& 31)) else ((c <<< ((1 : Int32) &&& 31)) ^^^ (4129 : Int32))
def own_byte (c b : Int32) : Int32 := own_bit (own_bit (own_bit (own_bit (own_bit (own_bit (own_bit (own_bit (c ^^^ ((b &&& (255 : Int32)) <<< ((8 : Int32) &&& 31))))))))))
def own_run (bs : List Int32) : Nat → Nat → Int32 → Int32
  | _, 0, c => c
  | i, k + 1, c => own_run bs (i + 1) k (own_byte c (bs.getD i 0))
theorem own_of (n : Nat) (h : n ≤ 100) : (Int32.ofNat n).toInt = n := Int32.toInt_ofNat_of_lt (by omega)
theorem own_up (n : Nat) : Int32.ofNat n + 1 = Int32.ofNat (n + 1) := by
  rw [Int32.ofNat_add]; rfl
theorem own_tn (x : Int32) : x.toNatClampNeg = x.toInt.toNat := rfl
theorem d2_4 : decode prog_31_method_2_code 4 = .ok (.iload_n 3, 1) := by decide +kernel
theorem d2_5 : decode prog_31_method_2_code 5 = .ok (.iload_n 1, 1) := by decide +kernel
theorem d2_6 : decode prog_31_method_2_code 6 = .ok (.if_icmp .ge 59, 3) := by decide +kernel
theorem d2_9 : decode prog_31_method_2_code 9 = .ok (.iload_n 2, 1) := by decide +kernel
theorem d2_10 : decode prog_31_method_2_code 10 = .ok (.aload_n 0, 1) := by decide +kernel
theorem d2_11 : decode prog_31_method_2_code 11 = .ok (.iload_n 3, 1) := by decide +kernel
theorem d2_12 : decode prog_31_method_2_code 12 = .ok (.baload, 1) := by decide +kernel
theorem d2_13 : decode prog_31_method_2_code 13 = .ok (.sipush 255, 3) := by decide +kernel
theorem d2_16 : decode prog_31_method_2_code 16 = .ok (.iand, 1) := by decide +kernel
theorem d2_17 : decode prog_31_method_2_code 17 = .ok (.bipush 8, 2) := by decide +kernel
theorem d2_19 : decode prog_31_method_2_code 19 = .ok (.ishl, 1) := by decide +kernel
theorem d2_20 : decode prog_31_method_2_code 20 = .ok (.ixor, 1) := by decide +kernel
theorem d2_21 : decode prog_31_method_2_code 21 = .ok (.istore_n 2, 1) := by decide +kernel
theorem d2_22 : decode prog_31_method_2_code 22 = .ok (.iconst 0, 1) := by decide +kernel
theorem own_os2_23 {z0 : Value} {z1 : Value} {z2 : Value} {z3 : Value} {s4 : Slot} {v : Int32} (h : One s4) : storeLocals #[.val z0, .val z1, .val z2, .val z3, s4] 4 (.int v) = some #[.val z0, .val z1, .val z2, .val z3, .val (.int v)] := by
  rcases h with rfl | ⟨w, rfl, hw⟩
  · rfl
  · cases w <;> first | rfl | (simp [Value.category] at hw)
theorem d2_23 : decode prog_31_method_2_code 23 = .ok (.istore 4, 2) := by decide +kernel
theorem d2_25 : decode prog_31_method_2_code 25 = .ok (.iload 4, 2) := by decide +kernel
theorem d2_27 : decode prog_31_method_2_code 27 = .ok (.bipush 8, 2) := by decide +kernel
theorem d2_29 : decode prog_31_method_2_code 29 = .ok (.if_icmp .ge 30, 3) := by decide +kernel
theorem d2_32 : decode prog_31_method_2_code 32 = .ok (.iload_n 2, 1) := by decide +kernel
theorem d2_33 : decode prog_31_method_2_code 33 = .ok (.ldc 7, 2) := by decide +kernel
theorem d2_35 : decode prog_31_method_2_code 35 = .ok (.iand, 1) := by decide +kernel
theorem d2_36 : decode prog_31_method_2_code 36 = .ok (.ifCond .eq 13, 3) := by decide +kernel
theorem d2_49 : decode prog_31_method_2_code 49 = .ok (.iload_n 2, 1) := by decide +kernel
theorem d2_50 : decode prog_31_method_2_code 50 = .ok (.iconst 1, 1) := by decide +kernel
theorem d2_51 : decode prog_31_method_2_code 51 = .ok (.ishl, 1) := by decide +kernel
theorem d2_39 : decode prog_31_method_2_code 39 = .ok (.iload_n 2, 1) := by decide +kernel
theorem d2_40 : decode prog_31_method_2_code 40 = .ok (.iconst 1, 1) := by decide +kernel
theorem d2_41 : decode prog_31_method_2_code 41 = .ok (.ishl, 1) := by decide +kernel
theorem d2_42 : decode prog_31_method_2_code 42 = .ok (.sipush 4129, 3) := by decide +kernel
theorem d2_45 : decode prog_31_method_2_code 45 = .ok (.ixor, 1) := by decide +kernel
theorem d2_46 : decode prog_31_method_2_code 46 = .ok (.goto 6, 3) := by decide +kernel
theorem d2_52 : decode prog_31_method_2_code 52 = .ok (.istore_n 2, 1) := by decide +kernel
theorem d2_53 : decode prog_31_method_2_code 53 = .ok (.iinc 4 1, 3) := by decide +kernel
theorem d2_56 : decode prog_31_method_2_code 56 = .ok (.goto (-31), 3) := by decide +kernel
theorem d2_59 : decode prog_31_method_2_code 59 = .ok (.iinc 3 1, 3) := by decide +kernel
theorem d2_62 : decode prog_31_method_2_code 62 = .ok (.goto (-58), 3) := by decide +kernel
set_option maxRecDepth 65536 in
set_option maxHeartbeats 40000000 in
theorem own_turn {p : Program} {l : Launch} {e : Env} {s : State} {m : MethodId} {args : Array Value} {below : List Frame} {meth : Method} {c : Code} {T0 : State} {locs : List Loc} {Z : State} {a0 : Array Value} {h0 : Heap} {n0 : Nat} (o : Addr) (n cc i : Int32) (s4 : Slot) (kc : ClassId) (z : Int32) (bs : List Int32)
    (X0 : Stand p l e ({ frames := 0, cells := 0, slots := 0, locals := 0 } : Room) s m args below meth c T0 locs 0 0) (hx : p.tables.exec = Jvm.exec) (hZ : Z.Warmed39 s.vm) (hw : ∀ d ∈ tables_1, d.before a0 Z = true) (hby : c.code = prog_31_method_2_code) (hml : c.maxLocals = 5) (hown : s.vm.findClass "io/subjectwire/auth/Crc16" = some m.cls) (e0 : T0.heap = h0) (Z0 : n0 ≤ h0.size) (N0 : Fr n0 locs) (V_o : Arv Z h0 o kc .byte z (bs.map Value.int) (.int (0 : Int32))) (hs4 : One s4) (hz : ¬ i < 0 ∧ i < z) (hc : i < n) :
    ∃ (T' : State) (h' : Heap) (locs' : List Loc) (cv : Int32), Stand p l e ({ frames := 0, cells := 0, slots := 0, locals := 0 } : Room) s m args below meth c T' locs' 0 0 ∧ T'.heap = h' ∧ Fr n0 locs' ∧ h' = h0 ∧ cv = own_byte cc (bs.getD i.toNatClampNeg 0) ∧ own_go p e below (T0.setTop (mkF m 4 #[.val (.ref o), .val (.int n), .val (.int cc), .val (.int i), s4] [])) (T'.setTop (mkF m 4 #[.val (.ref o), .val (.int n), .val (.int cv), .val (.int (i + (1 : Int32))), .val (.int (8 : Int32))] [])) := by
  have go0 : own_go p e below (T0.setTop (mkF m 4 #[.val (.ref o), .val (.int n), .val (.int cc), .val (.int i), s4] [])) (T0.setTop (mkF m 4 #[.val (.ref o), .val (.int n), .val (.int cc), .val (.int i), s4] [])) := fun t k => k
  have hc1_6 : i < n := hc
  obtain ⟨cl2, Ar2, q2, S2, M2, H2, G2⟩ := id V_o
  have hin2 : ¬ (i < 0 ∨ cl2.slots.size ≤ (i).toNatClampNeg) := inb_of S2 hz
  have hat2 : cl2.slots[(i).toNatClampNeg]? = some (.int (bs.getD i.toNatClampNeg (0 : Int32))) := Has.at H2 hin2 (own_getD Value.int bs 0 _)
  obtain ⟨v3, hv_v3⟩ : ∃ z : Int32, z = (cc ^^^ (((bs.getD i.toNatClampNeg (0 : Int32)) &&& (255 : Int32)) <<< ((8 : Int32) &&& 31))) := ⟨_, rfl⟩
  have go4 : own_go p e below (T0.setTop (mkF m 4 #[.val (.ref o), .val (.int n), .val (.int cc), .val (.int i), s4] [])) (T0.setTop (mkF m 23 #[.val (.ref o), .val (.int n), .val (.int v3), .val (.int i), s4] [(.int (0 : Int32))])) := by
    intro ttx ktx
    refine go0 ttx ?_
    show Steps p.tables e below (T0.setTop (mkF m 4 #[.val (.ref o), .val (.int n), .val (.int cc), .val (.int i), s4] [])) _
    refine XS.iloadN X0.here hx rfl (hb hby d2_4) rfl ?_
    show Steps p.tables e below (T0.setTop (mkF m 5 #[.val (.ref o), .val (.int n), .val (.int cc), .val (.int i), s4] [(.int i)])) _
    refine XS.iloadN X0.here hx rfl (hb hby d2_5) rfl ?_
    show Steps p.tables e below (T0.setTop (mkF m 6 #[.val (.ref o), .val (.int n), .val (.int cc), .val (.int i), s4] [(.int n), (.int i)])) _
    refine XS.icmpNo X0.here hx rfl (hb hby d2_6) rfl (tlt hc1_6).2.1 ?_
    show Steps p.tables e below (T0.setTop (mkF m 9 #[.val (.ref o), .val (.int n), .val (.int cc), .val (.int i), s4] [])) _
    refine XS.iloadN X0.here hx rfl (hb hby d2_9) rfl ?_
    show Steps p.tables e below (T0.setTop (mkF m 10 #[.val (.ref o), .val (.int n), .val (.int cc), .val (.int i), s4] [(.int cc)])) _
    refine XS.aloadN X0.here hx rfl (hb hby d2_10) rfl rfl ?_
    show Steps p.tables e below (T0.setTop (mkF m 11 #[.val (.ref o), .val (.int n), .val (.int cc), .val (.int i), s4] [(.ref o), (.int cc)])) _
    refine XS.iloadN X0.here hx rfl (hb hby d2_11) rfl ?_
    show Steps p.tables e below (T0.setTop (mkF m 12 #[.val (.ref o), .val (.int n), .val (.int cc), .val (.int i), s4] [(.int i), (.ref o), (.int cc)])) _
    refine X0.baloadBytes hx (j := i) (v := (.int (bs.getD i.toNatClampNeg (0 : Int32)))) (own_hp e0 Ar2.1) (State.isArrayOf_alike hZ.alike Ar2.2.1) Ar2.2.2 hin2 hat2 (g := (mkF m 12 #[.val (.ref o), .val (.int n), .val (.int cc), .val (.int i), s4] [(.int i), (.ref o), (.int cc)])) rfl rfl (hb hby d2_12) _ ?_
    show Steps p.tables e below (T0.setTop (mkF m 13 #[.val (.ref o), .val (.int n), .val (.int cc), .val (.int i), s4] [(.int (bs.getD i.toNatClampNeg (0 : Int32))), (.int cc)])) _
    refine XS.sipush X0.here hx rfl (hb hby d2_13) ?_
    show Steps p.tables e below (T0.setTop (mkF m 16 #[.val (.ref o), .val (.int n), .val (.int cc), .val (.int i), s4] [(.int (255 : Int32)), (.int (bs.getD i.toNatClampNeg (0 : Int32))), (.int cc)])) _
    refine XS.iand X0.here hx rfl (hb hby d2_16) rfl ?_
    show Steps p.tables e below (T0.setTop (mkF m 17 #[.val (.ref o), .val (.int n), .val (.int cc), .val (.int i), s4] [(.int ((bs.getD i.toNatClampNeg (0 : Int32)) &&& (255 : Int32))), (.int cc)])) _
    refine XS.bipush X0.here hx rfl (hb hby d2_17) ?_
    show Steps p.tables e below (T0.setTop (mkF m 19 #[.val (.ref o), .val (.int n), .val (.int cc), .val (.int i), s4] [(.int (8 : Int32)), (.int ((bs.getD i.toNatClampNeg (0 : Int32)) &&& (255 : Int32))), (.int cc)])) _
    refine XS.ishl X0.here hx rfl (hb hby d2_19) rfl ?_
    show Steps p.tables e below (T0.setTop (mkF m 20 #[.val (.ref o), .val (.int n), .val (.int cc), .val (.int i), s4] [(.int (((bs.getD i.toNatClampNeg (0 : Int32)) &&& (255 : Int32)) <<< ((8 : Int32) &&& 31))), (.int cc)])) _
    refine XS.ixor X0.here hx rfl (hb hby d2_20) rfl ?_
    show Steps p.tables e below (T0.setTop (mkF m 21 #[.val (.ref o), .val (.int n), .val (.int cc), .val (.int i), s4] [(.int (cc ^^^ (((bs.getD i.toNatClampNeg (0 : Int32)) &&& (255 : Int32)) <<< ((8 : Int32) &&& 31))))])) _
    rw [← hv_v3]
    show Steps p.tables e below (T0.setTop (mkF m 21 #[.val (.ref o), .val (.int n), .val (.int cc), .val (.int i), s4] [(.int v3)])) _
    refine XS.istoreN X0.here hx rfl (hb hby d2_21) rfl (l' := #[.val (.ref o), .val (.int n), .val (.int v3), .val (.int i), s4]) rfl ?_
    show Steps p.tables e below (T0.setTop (mkF m 22 #[.val (.ref o), .val (.int n), .val (.int v3), .val (.int i), s4] [])) _
    refine XS.iconst X0.here hx rfl (hb hby d2_22) ?_
    exact ktx
  have hc5_29 : (0 : Int32) < (8 : Int32) := (by decide)
  have go6 : own_go p e below (T0.setTop (mkF m 4 #[.val (.ref o), .val (.int n), .val (.int cc), .val (.int i), s4] [])) (T0.setTop (mkF m 36 #[.val (.ref o), .val (.int n), .val (.int v3), .val (.int i), .val (.int (0 : Int32))] [(.int (v3 &&& (32768 : Int32)))])) := by
    intro ttx ktx
    refine go4 ttx ?_
    show Steps p.tables e below (T0.setTop (mkF m 23 #[.val (.ref o), .val (.int n), .val (.int v3), .val (.int i), s4] [(.int (0 : Int32))])) _
    refine XS.istore X0.here hx rfl (hb hby d2_23) rfl (l' := #[.val (.ref o), .val (.int n), .val (.int v3), .val (.int i), .val (.int (0 : Int32))]) (own_os2_23 hs4) ?_
    show Steps p.tables e below (T0.setTop (mkF m 25 #[.val (.ref o), .val (.int n), .val (.int v3), .val (.int i), .val (.int (0 : Int32))] [])) _
    refine XS.iload X0.here hx rfl (hb hby d2_25) rfl ?_
    show Steps p.tables e below (T0.setTop (mkF m 27 #[.val (.ref o), .val (.int n), .val (.int v3), .val (.int i), .val (.int (0 : Int32))] [(.int (0 : Int32))])) _
    refine XS.bipush X0.here hx rfl (hb hby d2_27) ?_
    show Steps p.tables e below (T0.setTop (mkF m 29 #[.val (.ref o), .val (.int n), .val (.int v3), .val (.int i), .val (.int (0 : Int32))] [(.int (8 : Int32)), (.int (0 : Int32))])) _
    refine XS.icmpNo X0.here hx rfl (hb hby d2_29) rfl (tlt hc5_29).2.1 ?_
    show Steps p.tables e below (T0.setTop (mkF m 32 #[.val (.ref o), .val (.int n), .val (.int v3), .val (.int i), .val (.int (0 : Int32))] [])) _
    refine XS.iloadN X0.here hx rfl (hb hby d2_32) rfl ?_
    show Steps p.tables e below (T0.setTop (mkF m 33 #[.val (.ref o), .val (.int n), .val (.int v3), .val (.int i), .val (.int (0 : Int32))] [(.int v3)])) _
    refine X0.ldcInt hx hown (mvT hZ (hw _ (List.mem_of_getElem? (i := 9) rfl))) (g := (mkF m 33 #[.val (.ref o), .val (.int n), .val (.int v3), .val (.int i), .val (.int (0 : Int32))] [(.int v3)])) rfl (hb hby d2_33) _ ?_
    show Steps p.tables e below (T0.setTop (mkF m 35 #[.val (.ref o), .val (.int n), .val (.int v3), .val (.int i), .val (.int (0 : Int32))] [(.int (32768 : Int32)), (.int v3)])) _
    refine XS.iand X0.here hx rfl (hb hby d2_35) rfl ?_
    exact ktx
  obtain ⟨v10, hv_v10, go11⟩ : ∃ (v10 : Int32), v10 = (if (v3 &&& (32768 : Int32)) = (0 : Int32) then (v3 <<< ((1 : Int32) &&& 31)) else ((v3 <<< ((1 : Int32) &&& 31)) ^^^ (4129 : Int32))) ∧ own_go p e below (T0.setTop (mkF m 4 #[.val (.ref o), .val (.int n), .val (.int cc), .val (.int i), s4] [])) (T0.setTop (mkF m 52 #[.val (.ref o), .val (.int n), .val (.int v3), .val (.int i), .val (.int (0 : Int32))] [(.int v10)])) := by
    by_cases hc7_36 : (v3 &&& (32768 : Int32)) = (0 : Int32)
    · have go8 : own_go p e below (T0.setTop (mkF m 4 #[.val (.ref o), .val (.int n), .val (.int cc), .val (.int i), s4] [])) (T0.setTop (mkF m 52 #[.val (.ref o), .val (.int n), .val (.int v3), .val (.int i), .val (.int (0 : Int32))] [(.int (v3 <<< ((1 : Int32) &&& 31)))])) := by
        intro ttx ktx
        refine go6 ttx ?_
        show Steps p.tables e below (T0.setTop (mkF m 36 #[.val (.ref o), .val (.int n), .val (.int v3), .val (.int i), .val (.int (0 : Int32))] [(.int (v3 &&& (32768 : Int32)))])) _
        refine XS.ifYes X0.here hx rfl (pc0 := 36) (pc' := 49) rfl (hb hby d2_36) rfl ((if0 _ _).trans (teq hc7_36).1) (by decide) (by decide) ?_
        show Steps p.tables e below (T0.setTop (mkF m 49 #[.val (.ref o), .val (.int n), .val (.int v3), .val (.int i), .val (.int (0 : Int32))] [])) _
        refine XS.iloadN X0.here hx rfl (hb hby d2_49) rfl ?_
        show Steps p.tables e below (T0.setTop (mkF m 50 #[.val (.ref o), .val (.int n), .val (.int v3), .val (.int i), .val (.int (0 : Int32))] [(.int v3)])) _
        refine XS.iconst X0.here hx rfl (hb hby d2_50) ?_
        show Steps p.tables e below (T0.setTop (mkF m 51 #[.val (.ref o), .val (.int n), .val (.int v3), .val (.int i), .val (.int (0 : Int32))] [(.int (1 : Int32)), (.int v3)])) _
        refine XS.ishl X0.here hx rfl (hb hby d2_51) rfl ?_
        exact ktx
      exact ⟨_, (if_pos hc7_36).symm, go8⟩
    · have go9 : own_go p e below (T0.setTop (mkF m 4 #[.val (.ref o), .val (.int n), .val (.int cc), .val (.int i), s4] [])) (T0.setTop (mkF m 52 #[.val (.ref o), .val (.int n), .val (.int v3), .val (.int i), .val (.int (0 : Int32))] [(.int ((v3 <<< ((1 : Int32) &&& 31)) ^^^ (4129 : Int32)))])) := by
        intro ttx ktx
        refine go6 ttx ?_
        show Steps p.tables e below (T0.setTop (mkF m 36 #[.val (.ref o), .val (.int n), .val (.int v3), .val (.int i), .val (.int (0 : Int32))] [(.int (v3 &&& (32768 : Int32)))])) _
        refine XS.ifNo X0.here hx rfl (hb hby d2_36) rfl ((if0 _ _).trans (feq hc7_36).1) ?_
        show Steps p.tables e below (T0.setTop (mkF m 39 #[.val (.ref o), .val (.int n), .val (.int v3), .val (.int i), .val (.int (0 : Int32))] [])) _
        refine XS.iloadN X0.here hx rfl (hb hby d2_39) rfl ?_
        show Steps p.tables e below (T0.setTop (mkF m 40 #[.val (.ref o), .val (.int n), .val (.int v3), .val (.int i), .val (.int (0 : Int32))] [(.int v3)])) _
        refine XS.iconst X0.here hx rfl (hb hby d2_40) ?_
        show Steps p.tables e below (T0.setTop (mkF m 41 #[.val (.ref o), .val (.int n), .val (.int v3), .val (.int i), .val (.int (0 : Int32))] [(.int (1 : Int32)), (.int v3)])) _
        refine XS.ishl X0.here hx rfl (hb hby d2_41) rfl ?_
        show Steps p.tables e below (T0.setTop (mkF m 42 #[.val (.ref o), .val (.int n), .val (.int v3), .val (.int i), .val (.int (0 : Int32))] [(.int (v3 <<< ((1 : Int32) &&& 31)))])) _
        refine XS.sipush X0.here hx rfl (hb hby d2_42) ?_
        show Steps p.tables e below (T0.setTop (mkF m 45 #[.val (.ref o), .val (.int n), .val (.int v3), .val (.int i), .val (.int (0 : Int32))] [(.int (4129 : Int32)), (.int (v3 <<< ((1 : Int32) &&& 31)))])) _
        refine XS.ixor X0.here hx rfl (hb hby d2_45) rfl ?_
        show Steps p.tables e below (T0.setTop (mkF m 46 #[.val (.ref o), .val (.int n), .val (.int v3), .val (.int i), .val (.int (0 : Int32))] [(.int ((v3 <<< ((1 : Int32) &&& 31)) ^^^ (4129 : Int32)))])) _
        refine XS.goto X0.here hx rfl (pc0 := 46) (pc' := 52) rfl (hb hby d2_46) (by decide) (by decide) ?_
        exact ktx
      exact ⟨_, (if_neg hc7_36).symm, go9⟩
  have hc12_29 : (1 : Int32) < (8 : Int32) := (by decide)
  have go13 : own_go p e below (T0.setTop (mkF m 4 #[.val (.ref o), .val (.int n), .val (.int cc), .val (.int i), s4] [])) (T0.setTop (mkF m 36 #[.val (.ref o), .val (.int n), .val (.int v10), .val (.int i), .val (.int (1 : Int32))] [(.int (v10 &&& (32768 : Int32)))])) := by
    intro ttx ktx
    refine go11 ttx ?_
    show Steps p.tables e below (T0.setTop (mkF m 52 #[.val (.ref o), .val (.int n), .val (.int v3), .val (.int i), .val (.int (0 : Int32))] [(.int v10)])) _
    refine XS.istoreN X0.here hx rfl (hb hby d2_52) rfl (l' := #[.val (.ref o), .val (.int n), .val (.int v10), .val (.int i), .val (.int (0 : Int32))]) rfl ?_
    show Steps p.tables e below (T0.setTop (mkF m 53 #[.val (.ref o), .val (.int n), .val (.int v10), .val (.int i), .val (.int (0 : Int32))] [])) _
    refine XS.iinc X0.here hx rfl (hb hby d2_53) rfl (l' := #[.val (.ref o), .val (.int n), .val (.int v10), .val (.int i), .val (.int (1 : Int32))]) rfl ?_
    show Steps p.tables e below (T0.setTop (mkF m 56 #[.val (.ref o), .val (.int n), .val (.int v10), .val (.int i), .val (.int (1 : Int32))] [])) _
    refine XS.goto X0.here hx rfl (pc0 := 56) (pc' := 25) rfl (hb hby d2_56) (by decide) (by decide) ?_
    show Steps p.tables e below (T0.setTop (mkF m 25 #[.val (.ref o), .val (.int n), .val (.int v10), .val (.int i), .val (.int (1 : Int32))] [])) _
    refine XS.iload X0.here hx rfl (hb hby d2_25) rfl ?_
    show Steps p.tables e below (T0.setTop (mkF m 27 #[.val (.ref o), .val (.int n), .val (.int v10), .val (.int i), .val (.int (1 : Int32))] [(.int (1 : Int32))])) _
    refine XS.bipush X0.here hx rfl (hb hby d2_27) ?_
    show Steps p.tables e below (T0.setTop (mkF m 29 #[.val (.ref o), .val (.int n), .val (.int v10), .val (.int i), .val (.int (1 : Int32))] [(.int (8 : Int32)), (.int (1 : Int32))])) _
    refine XS.icmpNo X0.here hx rfl (hb hby d2_29) rfl (tlt hc12_29).2.1 ?_
    show Steps p.tables e below (T0.setTop (mkF m 32 #[.val (.ref o), .val (.int n), .val (.int v10), .val (.int i), .val (.int (1 : Int32))] [])) _
    refine XS.iloadN X0.here hx rfl (hb hby d2_32) rfl ?_
    show Steps p.tables e below (T0.setTop (mkF m 33 #[.val (.ref o), .val (.int n), .val (.int v10), .val (.int i), .val (.int (1 : Int32))] [(.int v10)])) _
    refine X0.ldcInt hx hown (mvT hZ (hw _ (List.mem_of_getElem? (i := 9) rfl))) (g := (mkF m 33 #[.val (.ref o), .val (.int n), .val (.int v10), .val (.int i), .val (.int (1 : Int32))] [(.int v10)])) rfl (hb hby d2_33) _ ?_
    show Steps p.tables e below (T0.setTop (mkF m 35 #[.val (.ref o), .val (.int n), .val (.int v10), .val (.int i), .val (.int (1 : Int32))] [(.int (32768 : Int32)), (.int v10)])) _
    refine XS.iand X0.here hx rfl (hb hby d2_35) rfl ?_
    exact ktx
  obtain ⟨v17, hv_v17, go18⟩ : ∃ (v17 : Int32), v17 = (if (v10 &&& (32768 : Int32)) = (0 : Int32) then (v10 <<< ((1 : Int32) &&& 31)) else ((v10 <<< ((1 : Int32) &&& 31)) ^^^ (4129 : Int32))) ∧ own_go p e below (T0.setTop (mkF m 4 #[.val (.ref o), .val (.int n), .val (.int cc), .val (.int i), s4] [])) (T0.setTop (mkF m 52 #[.val (.ref o), .val (.int n), .val (.int v10), .val (.int i), .val (.int (1 : Int32))] [(.int v17)])) := by
    by_cases hc14_36 : (v10 &&& (32768 : Int32)) = (0 : Int32)
    · have go15 : own_go p e below (T0.setTop (mkF m 4 #[.val (.ref o), .val (.int n), .val (.int cc), .val (.int i), s4] [])) (T0.setTop (mkF m 52 #[.val (.ref o), .val (.int n), .val (.int v10), .val (.int i), .val (.int (1 : Int32))] [(.int (v10 <<< ((1 : Int32) &&& 31)))])) := by
        intro ttx ktx
        refine go13 ttx ?_
        show Steps p.tables e below (T0.setTop (mkF m 36 #[.val (.ref o), .val (.int n), .val (.int v10), .val (.int i), .val (.int (1 : Int32))] [(.int (v10 &&& (32768 : Int32)))])) _
        refine XS.ifYes X0.here hx rfl (pc0 := 36) (pc' := 49) rfl (hb hby d2_36) rfl ((if0 _ _).trans (teq hc14_36).1) (by decide) (by decide) ?_
        show Steps p.tables e below (T0.setTop (mkF m 49 #[.val (.ref o), .val (.int n), .val (.int v10), .val (.int i), .val (.int (1 : Int32))] [])) _
        refine XS.iloadN X0.here hx rfl (hb hby d2_49) rfl ?_
        show Steps p.tables e below (T0.setTop (mkF m 50 #[.val (.ref o), .val (.int n), .val (.int v10), .val (.int i), .val (.int (1 : Int32))] [(.int v10)])) _
        refine XS.iconst X0.here hx rfl (hb hby d2_50) ?_
        show Steps p.tables e below (T0.setTop (mkF m 51 #[.val (.ref o), .val (.int n), .val (.int v10), .val (.int i), .val (.int (1 : Int32))] [(.int (1 : Int32)), (.int v10)])) _
        refine XS.ishl X0.here hx rfl (hb hby d2_51) rfl ?_
        exact ktx
      exact ⟨_, (if_pos hc14_36).symm, go15⟩
    · have go16 : own_go p e below (T0.setTop (mkF m 4 #[.val (.ref o), .val (.int n), .val (.int cc), .val (.int i), s4] [])) (T0.setTop (mkF m 52 #[.val (.ref o), .val (.int n), .val (.int v10), .val (.int i), .val (.int (1 : Int32))] [(.int ((v10 <<< ((1 : Int32) &&& 31)) ^^^ (4129 : Int32)))])) := by
        intro ttx ktx
        refine go13 ttx ?_
        show Steps p.tables e below (T0.setTop (mkF m 36 #[.val (.ref o), .val (.int n), .val (.int v10), .val (.int i), .val (.int (1 : Int32))] [(.int (v10 &&& (32768 : Int32)))])) _
        refine XS.ifNo X0.here hx rfl (hb hby d2_36) rfl ((if0 _ _).trans (feq hc14_36).1) ?_
        show Steps p.tables e below (T0.setTop (mkF m 39 #[.val (.ref o), .val (.int n), .val (.int v10), .val (.int i), .val (.int (1 : Int32))] [])) _
        refine XS.iloadN X0.here hx rfl (hb hby d2_39) rfl ?_
        show Steps p.tables e below (T0.setTop (mkF m 40 #[.val (.ref o), .val (.int n), .val (.int v10), .val (.int i), .val (.int (1 : Int32))] [(.int v10)])) _
        refine XS.iconst X0.here hx rfl (hb hby d2_40) ?_
        show Steps p.tables e below (T0.setTop (mkF m 41 #[.val (.ref o), .val (.int n), .val (.int v10), .val (.int i), .val (.int (1 : Int32))] [(.int (1 : Int32)), (.int v10)])) _
        refine XS.ishl X0.here hx rfl (hb hby d2_41) rfl ?_
        show Steps p.tables e below (T0.setTop (mkF m 42 #[.val (.ref o), .val (.int n), .val (.int v10), .val (.int i), .val (.int (1 : Int32))] [(.int (v10 <<< ((1 : Int32) &&& 31)))])) _
        refine XS.sipush X0.here hx rfl (hb hby d2_42) ?_
        show Steps p.tables e below (T0.setTop (mkF m 45 #[.val (.ref o), .val (.int n), .val (.int v10), .val (.int i), .val (.int (1 : Int32))] [(.int (4129 : Int32)), (.int (v10 <<< ((1 : Int32) &&& 31)))])) _
        refine XS.ixor X0.here hx rfl (hb hby d2_45) rfl ?_
        show Steps p.tables e below (T0.setTop (mkF m 46 #[.val (.ref o), .val (.int n), .val (.int v10), .val (.int i), .val (.int (1 : Int32))] [(.int ((v10 <<< ((1 : Int32) &&& 31)) ^^^ (4129 : Int32)))])) _
        refine XS.goto X0.here hx rfl (pc0 := 46) (pc' := 52) rfl (hb hby d2_46) (by decide) (by decide) ?_
        exact ktx
      exact ⟨_, (if_neg hc14_36).symm, go16⟩
  have hc19_29 : (2 : Int32) < (8 : Int32) := (by decide)
  have go20 : own_go p e below (T0.setTop (mkF m 4 #[.val (.ref o), .val (.int n), .val (.int cc), .val (.int i), s4] [])) (T0.setTop (mkF m 36 #[.val (.ref o), .val (.int n), .val (.int v17), .val (.int i), .val (.int (2 : Int32))] [(.int (v17 &&& (32768 : Int32)))])) := by
    intro ttx ktx
    refine go18 ttx ?_
    show Steps p.tables e below (T0.setTop (mkF m 52 #[.val (.ref o), .val (.int n), .val (.int v10), .val (.int i), .val (.int (1 : Int32))] [(.int v17)])) _
    refine XS.istoreN X0.here hx rfl (hb hby d2_52) rfl (l' := #[.val (.ref o), .val (.int n), .val (.int v17), .val (.int i), .val (.int (1 : Int32))]) rfl ?_
    show Steps p.tables e below (T0.setTop (mkF m 53 #[.val (.ref o), .val (.int n), .val (.int v17), .val (.int i), .val (.int (1 : Int32))] [])) _
    refine XS.iinc X0.here hx rfl (hb hby d2_53) rfl (l' := #[.val (.ref o), .val (.int n), .val (.int v17), .val (.int i), .val (.int (2 : Int32))]) rfl ?_
    show Steps p.tables e below (T0.setTop (mkF m 56 #[.val (.ref o), .val (.int n), .val (.int v17), .val (.int i), .val (.int (2 : Int32))] [])) _
    refine XS.goto X0.here hx rfl (pc0 := 56) (pc' := 25) rfl (hb hby d2_56) (by decide) (by decide) ?_
    show Steps p.tables e below (T0.setTop (mkF m 25 #[.val (.ref o), .val (.int n), .val (.int v17), .val (.int i), .val (.int (2 : Int32))] [])) _
    refine XS.iload X0.here hx rfl (hb hby d2_25) rfl ?_
    show Steps p.tables e below (T0.setTop (mkF m 27 #[.val (.ref o), .val (.int n), .val (.int v17), .val (.int i), .val (.int (2 : Int32))] [(.int (2 : Int32))])) _
    refine XS.bipush X0.here hx rfl (hb hby d2_27) ?_
    show Steps p.tables e below (T0.setTop (mkF m 29 #[.val (.ref o), .val (.int n), .val (.int v17), .val (.int i), .val (.int (2 : Int32))] [(.int (8 : Int32)), (.int (2 : Int32))])) _
    refine XS.icmpNo X0.here hx rfl (hb hby d2_29) rfl (tlt hc19_29).2.1 ?_
    show Steps p.tables e below (T0.setTop (mkF m 32 #[.val (.ref o), .val (.int n), .val (.int v17), .val (.int i), .val (.int (2 : Int32))] [])) _
    refine XS.iloadN X0.here hx rfl (hb hby d2_32) rfl ?_
    show Steps p.tables e below (T0.setTop (mkF m 33 #[.val (.ref o), .val (.int n), .val (.int v17), .val (.int i), .val (.int (2 : Int32))] [(.int v17)])) _
    refine X0.ldcInt hx hown (mvT hZ (hw _ (List.mem_of_getElem? (i := 9) rfl))) (g := (mkF m 33 #[.val (.ref o), .val (.int n), .val (.int v17), .val (.int i), .val (.int (2 : Int32))] [(.int v17)])) rfl (hb hby d2_33) _ ?_
    show Steps p.tables e below (T0.setTop (mkF m 35 #[.val (.ref o), .val (.int n), .val (.int v17), .val (.int i), .val (.int (2 : Int32))] [(.int (32768 : Int32)), (.int v17)])) _
    refine XS.iand X0.here hx rfl (hb hby d2_35) rfl ?_
    exact ktx
  obtain ⟨v24, hv_v24, go25⟩ : ∃ (v24 : Int32), v24 = (if (v17 &&& (32768 : Int32)) = (0 : Int32) then (v17 <<< ((1 : Int32) &&& 31)) else ((v17 <<< ((1 : Int32) &&& 31)) ^^^ (4129 : Int32))) ∧ own_go p e below (T0.setTop (mkF m 4 #[.val (.ref o), .val (.int n), .val (.int cc), .val (.int i), s4] [])) (T0.setTop (mkF m 52 #[.val (.ref o), .val (.int n), .val (.int v17), .val (.int i), .val (.int (2 : Int32))] [(.int v24)])) := by
    by_cases hc21_36 : (v17 &&& (32768 : Int32)) = (0 : Int32)
    · have go22 : own_go p e below (T0.setTop (mkF m 4 #[.val (.ref o), .val (.int n), .val (.int cc), .val (.int i), s4] [])) (T0.setTop (mkF m 52 #[.val (.ref o), .val (.int n), .val (.int v17), .val (.int i), .val (.int (2 : Int32))] [(.int (v17 <<< ((1 : Int32) &&& 31)))])) := by
        intro ttx ktx
        refine go20 ttx ?_
        show Steps p.tables e below (T0.setTop (mkF m 36 #[.val (.ref o), .val (.int n), .val (.int v17), .val (.int i), .val (.int (2 : Int32))] [(.int (v17 &&& (32768 : Int32)))])) _
        refine XS.ifYes X0.here hx rfl (pc0 := 36) (pc' := 49) rfl (hb hby d2_36) rfl ((if0 _ _).trans (teq hc21_36).1) (by decide) (by decide) ?_
        show Steps p.tables e below (T0.setTop (mkF m 49 #[.val (.ref o), .val (.int n), .val (.int v17), .val (.int i), .val (.int (2 : Int32))] [])) _
        refine XS.iloadN X0.here hx rfl (hb hby d2_49) rfl ?_
        show Steps p.tables e below (T0.setTop (mkF m 50 #[.val (.ref o), .val (.int n), .val (.int v17), .val (.int i), .val (.int (2 : Int32))] [(.int v17)])) _
        refine XS.iconst X0.here hx rfl (hb hby d2_50) ?_
        show Steps p.tables e below (T0.setTop (mkF m 51 #[.val (.ref o), .val (.int n), .val (.int v17), .val (.int i), .val (.int (2 : Int32))] [(.int (1 : Int32)), (.int v17)])) _
        refine XS.ishl X0.here hx rfl (hb hby d2_51) rfl ?_
        exact ktx
      exact ⟨_, (if_pos hc21_36).symm, go22⟩
    · have go23 : own_go p e below (T0.setTop (mkF m 4 #[.val (.ref o), .val (.int n), .val (.int cc), .val (.int i), s4] [])) (T0.setTop (mkF m 52 #[.val (.ref o), .val (.int n), .val (.int v17), .val (.int i), .val (.int (2 : Int32))] [(.int ((v17 <<< ((1 : Int32) &&& 31)) ^^^ (4129 : Int32)))])) := by
        intro ttx ktx
        refine go20 ttx ?_
        show Steps p.tables e below (T0.setTop (mkF m 36 #[.val (.ref o), .val (.int n), .val (.int v17), .val (.int i), .val (.int (2 : Int32))] [(.int (v17 &&& (32768 : Int32)))])) _
        refine XS.ifNo X0.here hx rfl (hb hby d2_36) rfl ((if0 _ _).trans (feq hc21_36).1) ?_
        show Steps p.tables e below (T0.setTop (mkF m 39 #[.val (.ref o), .val (.int n), .val (.int v17), .val (.int i), .val (.int (2 : Int32))] [])) _
        refine XS.iloadN X0.here hx rfl (hb hby d2_39) rfl ?_
        show Steps p.tables e below (T0.setTop (mkF m 40 #[.val (.ref o), .val (.int n), .val (.int v17), .val (.int i), .val (.int (2 : Int32))] [(.int v17)])) _
        refine XS.iconst X0.here hx rfl (hb hby d2_40) ?_
        show Steps p.tables e below (T0.setTop (mkF m 41 #[.val (.ref o), .val (.int n), .val (.int v17), .val (.int i), .val (.int (2 : Int32))] [(.int (1 : Int32)), (.int v17)])) _
        refine XS.ishl X0.here hx rfl (hb hby d2_41) rfl ?_
        show Steps p.tables e below (T0.setTop (mkF m 42 #[.val (.ref o), .val (.int n), .val (.int v17), .val (.int i), .val (.int (2 : Int32))] [(.int (v17 <<< ((1 : Int32) &&& 31)))])) _
        refine XS.sipush X0.here hx rfl (hb hby d2_42) ?_
        show Steps p.tables e below (T0.setTop (mkF m 45 #[.val (.ref o), .val (.int n), .val (.int v17), .val (.int i), .val (.int (2 : Int32))] [(.int (4129 : Int32)), (.int (v17 <<< ((1 : Int32) &&& 31)))])) _
        refine XS.ixor X0.here hx rfl (hb hby d2_45) rfl ?_
        show Steps p.tables e below (T0.setTop (mkF m 46 #[.val (.ref o), .val (.int n), .val (.int v17), .val (.int i), .val (.int (2 : Int32))] [(.int ((v17 <<< ((1 : Int32) &&& 31)) ^^^ (4129 : Int32)))])) _
        refine XS.goto X0.here hx rfl (pc0 := 46) (pc' := 52) rfl (hb hby d2_46) (by decide) (by decide) ?_
        exact ktx
      exact ⟨_, (if_neg hc21_36).symm, go23⟩
  have hc26_29 : (3 : Int32) < (8 : Int32) := (by decide)
  have go27 : own_go p e below (T0.setTop (mkF m 4 #[.val (.ref o), .val (.int n), .val (.int cc), .val (.int i), s4] [])) (T0.setTop (mkF m 36 #[.val (.ref o), .val (.int n), .val (.int v24), .val (.int i), .val (.int (3 : Int32))] [(.int (v24 &&& (32768 : Int32)))])) := by
    intro ttx ktx
    refine go25 ttx ?_
    show Steps p.tables e below (T0.setTop (mkF m 52 #[.val (.ref o), .val (.int n), .val (.int v17), .val (.int i), .val (.int (2 : Int32))] [(.int v24)])) _
    refine XS.istoreN X0.here hx rfl (hb hby d2_52) rfl (l' := #[.val (.ref o), .val (.int n), .val (.int v24), .val (.int i), .val (.int (2 : Int32))]) rfl ?_
    show Steps p.tables e below (T0.setTop (mkF m 53 #[.val (.ref o), .val (.int n), .val (.int v24), .val (.int i), .val (.int (2 : Int32))] [])) _
    refine XS.iinc X0.here hx rfl (hb hby d2_53) rfl (l' := #[.val (.ref o), .val (.int n), .val (.int v24), .val (.int i), .val (.int (3 : Int32))]) rfl ?_
    show Steps p.tables e below (T0.setTop (mkF m 56 #[.val (.ref o), .val (.int n), .val (.int v24), .val (.int i), .val (.int (3 : Int32))] [])) _
    refine XS.goto X0.here hx rfl (pc0 := 56) (pc' := 25) rfl (hb hby d2_56) (by decide) (by decide) ?_
    show Steps p.tables e below (T0.setTop (mkF m 25 #[.val (.ref o), .val (.int n), .val (.int v24), .val (.int i), .val (.int (3 : Int32))] [])) _
    refine XS.iload X0.here hx rfl (hb hby d2_25) rfl ?_
    show Steps p.tables e below (T0.setTop (mkF m 27 #[.val (.ref o), .val (.int n), .val (.int v24), .val (.int i), .val (.int (3 : Int32))] [(.int (3 : Int32))])) _
    refine XS.bipush X0.here hx rfl (hb hby d2_27) ?_
    show Steps p.tables e below (T0.setTop (mkF m 29 #[.val (.ref o), .val (.int n), .val (.int v24), .val (.int i), .val (.int (3 : Int32))] [(.int (8 : Int32)), (.int (3 : Int32))])) _
    refine XS.icmpNo X0.here hx rfl (hb hby d2_29) rfl (tlt hc26_29).2.1 ?_
    show Steps p.tables e below (T0.setTop (mkF m 32 #[.val (.ref o), .val (.int n), .val (.int v24), .val (.int i), .val (.int (3 : Int32))] [])) _
    refine XS.iloadN X0.here hx rfl (hb hby d2_32) rfl ?_
    show Steps p.tables e below (T0.setTop (mkF m 33 #[.val (.ref o), .val (.int n), .val (.int v24), .val (.int i), .val (.int (3 : Int32))] [(.int v24)])) _
    refine X0.ldcInt hx hown (mvT hZ (hw _ (List.mem_of_getElem? (i := 9) rfl))) (g := (mkF m 33 #[.val (.ref o), .val (.int n), .val (.int v24), .val (.int i), .val (.int (3 : Int32))] [(.int v24)])) rfl (hb hby d2_33) _ ?_
    show Steps p.tables e below (T0.setTop (mkF m 35 #[.val (.ref o), .val (.int n), .val (.int v24), .val (.int i), .val (.int (3 : Int32))] [(.int (32768 : Int32)), (.int v24)])) _
    refine XS.iand X0.here hx rfl (hb hby d2_35) rfl ?_
    exact ktx
  obtain ⟨v31, hv_v31, go32⟩ : ∃ (v31 : Int32), v31 = (if (v24 &&& (32768 : Int32)) = (0 : Int32) then (v24 <<< ((1 : Int32) &&& 31)) else ((v24 <<< ((1 : Int32) &&& 31)) ^^^ (4129 : Int32))) ∧ own_go p e below (T0.setTop (mkF m 4 #[.val (.ref o), .val (.int n), .val (.int cc), .val (.int i), s4] [])) (T0.setTop (mkF m 52 #[.val (.ref o), .val (.int n), .val (.int v24), .val (.int i), .val (.int (3 : Int32))] [(.int v31)])) := by
    by_cases hc28_36 : (v24 &&& (32768 : Int32)) = (0 : Int32)
    · have go29 : own_go p e below (T0.setTop (mkF m 4 #[.val (.ref o), .val (.int n), .val (.int cc), .val (.int i), s4] [])) (T0.setTop (mkF m 52 #[.val (.ref o), .val (.int n), .val (.int v24), .val (.int i), .val (.int (3 : Int32))] [(.int (v24 <<< ((1 : Int32) &&& 31)))])) := by
        intro ttx ktx
        refine go27 ttx ?_
        show Steps p.tables e below (T0.setTop (mkF m 36 #[.val (.ref o), .val (.int n), .val (.int v24), .val (.int i), .val (.int (3 : Int32))] [(.int (v24 &&& (32768 : Int32)))])) _
        refine XS.ifYes X0.here hx rfl (pc0 := 36) (pc' := 49) rfl (hb hby d2_36) rfl ((if0 _ _).trans (teq hc28_36).1) (by decide) (by decide) ?_
        show Steps p.tables e below (T0.setTop (mkF m 49 #[.val (.ref o), .val (.int n), .val (.int v24), .val (.int i), .val (.int (3 : Int32))] [])) _
        refine XS.iloadN X0.here hx rfl (hb hby d2_49) rfl ?_
        show Steps p.tables e below (T0.setTop (mkF m 50 #[.val (.ref o), .val (.int n), .val (.int v24), .val (.int i), .val (.int (3 : Int32))] [(.int v24)])) _
        refine XS.iconst X0.here hx rfl (hb hby d2_50) ?_
        show Steps p.tables e below (T0.setTop (mkF m 51 #[.val (.ref o), .val (.int n), .val (.int v24), .val (.int i), .val (.int (3 : Int32))] [(.int (1 : Int32)), (.int v24)])) _
        refine XS.ishl X0.here hx rfl (hb hby d2_51) rfl ?_
        exact ktx
      exact ⟨_, (if_pos hc28_36).symm, go29⟩
    · have go30 : own_go p e below (T0.setTop (mkF m 4 #[.val (.ref o), .val (.int n), .val (.int cc), .val (.int i), s4] [])) (T0.setTop (mkF m 52 #[.val (.ref o), .val (.int n), .val (.int v24), .val (.int i), .val (.int (3 : Int32))] [(.int ((v24 <<< ((1 : Int32) &&& 31)) ^^^ (4129 : Int32)))])) := by
        intro ttx ktx
        refine go27 ttx ?_
        show Steps p.tables e below (T0.setTop (mkF m 36 #[.val (.ref o), .val (.int n), .val (.int v24), .val (.int i), .val (.int (3 : Int32))] [(.int (v24 &&& (32768 : Int32)))])) _
        refine XS.ifNo X0.here hx rfl (hb hby d2_36) rfl ((if0 _ _).trans (feq hc28_36).1) ?_
        show Steps p.tables e below (T0.setTop (mkF m 39 #[.val (.ref o), .val (.int n), .val (.int v24), .val (.int i), .val (.int (3 : Int32))] [])) _
        refine XS.iloadN X0.here hx rfl (hb hby d2_39) rfl ?_
        show Steps p.tables e below (T0.setTop (mkF m 40 #[.val (.ref o), .val (.int n), .val (.int v24), .val (.int i), .val (.int (3 : Int32))] [(.int v24)])) _
        refine XS.iconst X0.here hx rfl (hb hby d2_40) ?_
        show Steps p.tables e below (T0.setTop (mkF m 41 #[.val (.ref o), .val (.int n), .val (.int v24), .val (.int i), .val (.int (3 : Int32))] [(.int (1 : Int32)), (.int v24)])) _
        refine XS.ishl X0.here hx rfl (hb hby d2_41) rfl ?_
        show Steps p.tables e below (T0.setTop (mkF m 42 #[.val (.ref o), .val (.int n), .val (.int v24), .val (.int i), .val (.int (3 : Int32))] [(.int (v24 <<< ((1 : Int32) &&& 31)))])) _
        refine XS.sipush X0.here hx rfl (hb hby d2_42) ?_
        show Steps p.tables e below (T0.setTop (mkF m 45 #[.val (.ref o), .val (.int n), .val (.int v24), .val (.int i), .val (.int (3 : Int32))] [(.int (4129 : Int32)), (.int (v24 <<< ((1 : Int32) &&& 31)))])) _
        refine XS.ixor X0.here hx rfl (hb hby d2_45) rfl ?_
        show Steps p.tables e below (T0.setTop (mkF m 46 #[.val (.ref o), .val (.int n), .val (.int v24), .val (.int i), .val (.int (3 : Int32))] [(.int ((v24 <<< ((1 : Int32) &&& 31)) ^^^ (4129 : Int32)))])) _
        refine XS.goto X0.here hx rfl (pc0 := 46) (pc' := 52) rfl (hb hby d2_46) (by decide) (by decide) ?_
        exact ktx
      exact ⟨_, (if_neg hc28_36).symm, go30⟩
  have hc33_29 : (4 : Int32) < (8 : Int32) := (by decide)
  have go34 : own_go p e below (T0.setTop (mkF m 4 #[.val (.ref o), .val (.int n), .val (.int cc), .val (.int i), s4] [])) (T0.setTop (mkF m 36 #[.val (.ref o), .val (.int n), .val (.int v31), .val (.int i), .val (.int (4 : Int32))] [(.int (v31 &&& (32768 : Int32)))])) := by
    intro ttx ktx
    refine go32 ttx ?_
    show Steps p.tables e below (T0.setTop (mkF m 52 #[.val (.ref o), .val (.int n), .val (.int v24), .val (.int i), .val (.int (3 : Int32))] [(.int v31)])) _
    refine XS.istoreN X0.here hx rfl (hb hby d2_52) rfl (l' := #[.val (.ref o), .val (.int n), .val (.int v31), .val (.int i), .val (.int (3 : Int32))]) rfl ?_
    show Steps p.tables e below (T0.setTop (mkF m 53 #[.val (.ref o), .val (.int n), .val (.int v31), .val (.int i), .val (.int (3 : Int32))] [])) _
    refine XS.iinc X0.here hx rfl (hb hby d2_53) rfl (l' := #[.val (.ref o), .val (.int n), .val (.int v31), .val (.int i), .val (.int (4 : Int32))]) rfl ?_
    show Steps p.tables e below (T0.setTop (mkF m 56 #[.val (.ref o), .val (.int n), .val (.int v31), .val (.int i), .val (.int (4 : Int32))] [])) _
    refine XS.goto X0.here hx rfl (pc0 := 56) (pc' := 25) rfl (hb hby d2_56) (by decide) (by decide) ?_
    show Steps p.tables e below (T0.setTop (mkF m 25 #[.val (.ref o), .val (.int n), .val (.int v31), .val (.int i), .val (.int (4 : Int32))] [])) _
    refine XS.iload X0.here hx rfl (hb hby d2_25) rfl ?_
    show Steps p.tables e below (T0.setTop (mkF m 27 #[.val (.ref o), .val (.int n), .val (.int v31), .val (.int i), .val (.int (4 : Int32))] [(.int (4 : Int32))])) _
    refine XS.bipush X0.here hx rfl (hb hby d2_27) ?_
    show Steps p.tables e below (T0.setTop (mkF m 29 #[.val (.ref o), .val (.int n), .val (.int v31), .val (.int i), .val (.int (4 : Int32))] [(.int (8 : Int32)), (.int (4 : Int32))])) _
    refine XS.icmpNo X0.here hx rfl (hb hby d2_29) rfl (tlt hc33_29).2.1 ?_
    show Steps p.tables e below (T0.setTop (mkF m 32 #[.val (.ref o), .val (.int n), .val (.int v31), .val (.int i), .val (.int (4 : Int32))] [])) _
    refine XS.iloadN X0.here hx rfl (hb hby d2_32) rfl ?_
    show Steps p.tables e below (T0.setTop (mkF m 33 #[.val (.ref o), .val (.int n), .val (.int v31), .val (.int i), .val (.int (4 : Int32))] [(.int v31)])) _
    refine X0.ldcInt hx hown (mvT hZ (hw _ (List.mem_of_getElem? (i := 9) rfl))) (g := (mkF m 33 #[.val (.ref o), .val (.int n), .val (.int v31), .val (.int i), .val (.int (4 : Int32))] [(.int v31)])) rfl (hb hby d2_33) _ ?_
    show Steps p.tables e below (T0.setTop (mkF m 35 #[.val (.ref o), .val (.int n), .val (.int v31), .val (.int i), .val (.int (4 : Int32))] [(.int (32768 : Int32)), (.int v31)])) _
    refine XS.iand X0.here hx rfl (hb hby d2_35) rfl ?_
    exact ktx
  obtain ⟨v38, hv_v38, go39⟩ : ∃ (v38 : Int32), v38 = (if (v31 &&& (32768 : Int32)) = (0 : Int32) then (v31 <<< ((1 : Int32) &&& 31)) else ((v31 <<< ((1 : Int32) &&& 31)) ^^^ (4129 : Int32))) ∧ own_go p e below (T0.setTop (mkF m 4 #[.val (.ref o), .val (.int n), .val (.int cc), .val (.int i), s4] [])) (T0.setTop (mkF m 52 #[.val (.ref o), .val (.int n), .val (.int v31), .val (.int i), .val (.int (4 : Int32))] [(.int v38)])) := by
    by_cases hc35_36 : (v31 &&& (32768 : Int32)) = (0 : Int32)
    · have go36 : own_go p e below (T0.setTop (mkF m 4 #[.val (.ref o), .val (.int n), .val (.int cc), .val (.int i), s4] [])) (T0.setTop (mkF m 52 #[.val (.ref o), .val (.int n), .val (.int v31), .val (.int i), .val (.int (4 : Int32))] [(.int (v31 <<< ((1 : Int32) &&& 31)))])) := by
        intro ttx ktx
        refine go34 ttx ?_
        show Steps p.tables e below (T0.setTop (mkF m 36 #[.val (.ref o), .val (.int n), .val (.int v31), .val (.int i), .val (.int (4 : Int32))] [(.int (v31 &&& (32768 : Int32)))])) _
        refine XS.ifYes X0.here hx rfl (pc0 := 36) (pc' := 49) rfl (hb hby d2_36) rfl ((if0 _ _).trans (teq hc35_36).1) (by decide) (by decide) ?_
        show Steps p.tables e below (T0.setTop (mkF m 49 #[.val (.ref o), .val (.int n), .val (.int v31), .val (.int i), .val (.int (4 : Int32))] [])) _
        refine XS.iloadN X0.here hx rfl (hb hby d2_49) rfl ?_
        show Steps p.tables e below (T0.setTop (mkF m 50 #[.val (.ref o), .val (.int n), .val (.int v31), .val (.int i), .val (.int (4 : Int32))] [(.int v31)])) _
        refine XS.iconst X0.here hx rfl (hb hby d2_50) ?_
        show Steps p.tables e below (T0.setTop (mkF m 51 #[.val (.ref o), .val (.int n), .val (.int v31), .val (.int i), .val (.int (4 : Int32))] [(.int (1 : Int32)), (.int v31)])) _
        refine XS.ishl X0.here hx rfl (hb hby d2_51) rfl ?_
        exact ktx
      exact ⟨_, (if_pos hc35_36).symm, go36⟩
    · have go37 : own_go p e below (T0.setTop (mkF m 4 #[.val (.ref o), .val (.int n), .val (.int cc), .val (.int i), s4] [])) (T0.setTop (mkF m 52 #[.val (.ref o), .val (.int n), .val (.int v31), .val (.int i), .val (.int (4 : Int32))] [(.int ((v31 <<< ((1 : Int32) &&& 31)) ^^^ (4129 : Int32)))])) := by
        intro ttx ktx
        refine go34 ttx ?_
        show Steps p.tables e below (T0.setTop (mkF m 36 #[.val (.ref o), .val (.int n), .val (.int v31), .val (.int i), .val (.int (4 : Int32))] [(.int (v31 &&& (32768 : Int32)))])) _
        refine XS.ifNo X0.here hx rfl (hb hby d2_36) rfl ((if0 _ _).trans (feq hc35_36).1) ?_
        show Steps p.tables e below (T0.setTop (mkF m 39 #[.val (.ref o), .val (.int n), .val (.int v31), .val (.int i), .val (.int (4 : Int32))] [])) _
        refine XS.iloadN X0.here hx rfl (hb hby d2_39) rfl ?_
        show Steps p.tables e below (T0.setTop (mkF m 40 #[.val (.ref o), .val (.int n), .val (.int v31), .val (.int i), .val (.int (4 : Int32))] [(.int v31)])) _
        refine XS.iconst X0.here hx rfl (hb hby d2_40) ?_
        show Steps p.tables e below (T0.setTop (mkF m 41 #[.val (.ref o), .val (.int n), .val (.int v31), .val (.int i), .val (.int (4 : Int32))] [(.int (1 : Int32)), (.int v31)])) _
        refine XS.ishl X0.here hx rfl (hb hby d2_41) rfl ?_
        show Steps p.tables e below (T0.setTop (mkF m 42 #[.val (.ref o), .val (.int n), .val (.int v31), .val (.int i), .val (.int (4 : Int32))] [(.int (v31 <<< ((1 : Int32) &&& 31)))])) _
        refine XS.sipush X0.here hx rfl (hb hby d2_42) ?_
        show Steps p.tables e below (T0.setTop (mkF m 45 #[.val (.ref o), .val (.int n), .val (.int v31), .val (.int i), .val (.int (4 : Int32))] [(.int (4129 : Int32)), (.int (v31 <<< ((1 : Int32) &&& 31)))])) _
        refine XS.ixor X0.here hx rfl (hb hby d2_45) rfl ?_
        show Steps p.tables e below (T0.setTop (mkF m 46 #[.val (.ref o), .val (.int n), .val (.int v31), .val (.int i), .val (.int (4 : Int32))] [(.int ((v31 <<< ((1 : Int32) &&& 31)) ^^^ (4129 : Int32)))])) _
        refine XS.goto X0.here hx rfl (pc0 := 46) (pc' := 52) rfl (hb hby d2_46) (by decide) (by decide) ?_
        exact ktx
      exact ⟨_, (if_neg hc35_36).symm, go37⟩
  have hc40_29 : (5 : Int32) < (8 : Int32) := (by decide)
  have go41 : own_go p e below (T0.setTop (mkF m 4 #[.val (.ref o), .val (.int n), .val (.int cc), .val (.int i), s4] [])) (T0.setTop (mkF m 36 #[.val (.ref o), .val (.int n), .val (.int v38), .val (.int i), .val (.int (5 : Int32))] [(.int (v38 &&& (32768 : Int32)))])) := by
    intro ttx ktx
    refine go39 ttx ?_
    show Steps p.tables e below (T0.setTop (mkF m 52 #[.val (.ref o), .val (.int n), .val (.int v31), .val (.int i), .val (.int (4 : Int32))] [(.int v38)])) _
    refine XS.istoreN X0.here hx rfl (hb hby d2_52) rfl (l' := #[.val (.ref o), .val (.int n), .val (.int v38), .val (.int i), .val (.int (4 : Int32))]) rfl ?_
    show Steps p.tables e below (T0.setTop (mkF m 53 #[.val (.ref o), .val (.int n), .val (.int v38), .val (.int i), .val (.int (4 : Int32))] [])) _
    refine XS.iinc X0.here hx rfl (hb hby d2_53) rfl (l' := #[.val (.ref o), .val (.int n), .val (.int v38), .val (.int i), .val (.int (5 : Int32))]) rfl ?_
    show Steps p.tables e below (T0.setTop (mkF m 56 #[.val (.ref o), .val (.int n), .val (.int v38), .val (.int i), .val (.int (5 : Int32))] [])) _
    refine XS.goto X0.here hx rfl (pc0 := 56) (pc' := 25) rfl (hb hby d2_56) (by decide) (by decide) ?_
    show Steps p.tables e below (T0.setTop (mkF m 25 #[.val (.ref o), .val (.int n), .val (.int v38), .val (.int i), .val (.int (5 : Int32))] [])) _
    refine XS.iload X0.here hx rfl (hb hby d2_25) rfl ?_
    show Steps p.tables e below (T0.setTop (mkF m 27 #[.val (.ref o), .val (.int n), .val (.int v38), .val (.int i), .val (.int (5 : Int32))] [(.int (5 : Int32))])) _
    refine XS.bipush X0.here hx rfl (hb hby d2_27) ?_
    show Steps p.tables e below (T0.setTop (mkF m 29 #[.val (.ref o), .val (.int n), .val (.int v38), .val (.int i), .val (.int (5 : Int32))] [(.int (8 : Int32)), (.int (5 : Int32))])) _
    refine XS.icmpNo X0.here hx rfl (hb hby d2_29) rfl (tlt hc40_29).2.1 ?_
    show Steps p.tables e below (T0.setTop (mkF m 32 #[.val (.ref o), .val (.int n), .val (.int v38), .val (.int i), .val (.int (5 : Int32))] [])) _
    refine XS.iloadN X0.here hx rfl (hb hby d2_32) rfl ?_
    show Steps p.tables e below (T0.setTop (mkF m 33 #[.val (.ref o), .val (.int n), .val (.int v38), .val (.int i), .val (.int (5 : Int32))] [(.int v38)])) _
    refine X0.ldcInt hx hown (mvT hZ (hw _ (List.mem_of_getElem? (i := 9) rfl))) (g := (mkF m 33 #[.val (.ref o), .val (.int n), .val (.int v38), .val (.int i), .val (.int (5 : Int32))] [(.int v38)])) rfl (hb hby d2_33) _ ?_
    show Steps p.tables e below (T0.setTop (mkF m 35 #[.val (.ref o), .val (.int n), .val (.int v38), .val (.int i), .val (.int (5 : Int32))] [(.int (32768 : Int32)), (.int v38)])) _
    refine XS.iand X0.here hx rfl (hb hby d2_35) rfl ?_
    exact ktx
  obtain ⟨v45, hv_v45, go46⟩ : ∃ (v45 : Int32), v45 = (if (v38 &&& (32768 : Int32)) = (0 : Int32) then (v38 <<< ((1 : Int32) &&& 31)) else ((v38 <<< ((1 : Int32) &&& 31)) ^^^ (4129 : Int32))) ∧ own_go p e below (T0.setTop (mkF m 4 #[.val (.ref o), .val (.int n), .val (.int cc), .val (.int i), s4] [])) (T0.setTop (mkF m 52 #[.val (.ref o), .val (.int n), .val (.int v38), .val (.int i), .val (.int (5 : Int32))] [(.int v45)])) := by
    by_cases hc42_36 : (v38 &&& (32768 : Int32)) = (0 : Int32)
    · have go43 : own_go p e below (T0.setTop (mkF m 4 #[.val (.ref o), .val (.int n), .val (.int cc), .val (.int i), s4] [])) (T0.setTop (mkF m 52 #[.val (.ref o), .val (.int n), .val (.int v38), .val (.int i), .val (.int (5 : Int32))] [(.int (v38 <<< ((1 : Int32) &&& 31)))])) := by
        intro ttx ktx
        refine go41 ttx ?_
        show Steps p.tables e below (T0.setTop (mkF m 36 #[.val (.ref o), .val (.int n), .val (.int v38), .val (.int i), .val (.int (5 : Int32))] [(.int (v38 &&& (32768 : Int32)))])) _
        refine XS.ifYes X0.here hx rfl (pc0 := 36) (pc' := 49) rfl (hb hby d2_36) rfl ((if0 _ _).trans (teq hc42_36).1) (by decide) (by decide) ?_
        show Steps p.tables e below (T0.setTop (mkF m 49 #[.val (.ref o), .val (.int n), .val (.int v38), .val (.int i), .val (.int (5 : Int32))] [])) _
        refine XS.iloadN X0.here hx rfl (hb hby d2_49) rfl ?_
        show Steps p.tables e below (T0.setTop (mkF m 50 #[.val (.ref o), .val (.int n), .val (.int v38), .val (.int i), .val (.int (5 : Int32))] [(.int v38)])) _
        refine XS.iconst X0.here hx rfl (hb hby d2_50) ?_
        show Steps p.tables e below (T0.setTop (mkF m 51 #[.val (.ref o), .val (.int n), .val (.int v38), .val (.int i), .val (.int (5 : Int32))] [(.int (1 : Int32)), (.int v38)])) _
        refine XS.ishl X0.here hx rfl (hb hby d2_51) rfl ?_
        exact ktx
      exact ⟨_, (if_pos hc42_36).symm, go43⟩
    · have go44 : own_go p e below (T0.setTop (mkF m 4 #[.val (.ref o), .val (.int n), .val (.int cc), .val (.int i), s4] [])) (T0.setTop (mkF m 52 #[.val (.ref o), .val (.int n), .val (.int v38), .val (.int i), .val (.int (5 : Int32))] [(.int ((v38 <<< ((1 : Int32) &&& 31)) ^^^ (4129 : Int32)))])) := by
        intro ttx ktx
        refine go41 ttx ?_
        show Steps p.tables e below (T0.setTop (mkF m 36 #[.val (.ref o), .val (.int n), .val (.int v38), .val (.int i), .val (.int (5 : Int32))] [(.int (v38 &&& (32768 : Int32)))])) _
        refine XS.ifNo X0.here hx rfl (hb hby d2_36) rfl ((if0 _ _).trans (feq hc42_36).1) ?_
        show Steps p.tables e below (T0.setTop (mkF m 39 #[.val (.ref o), .val (.int n), .val (.int v38), .val (.int i), .val (.int (5 : Int32))] [])) _
        refine XS.iloadN X0.here hx rfl (hb hby d2_39) rfl ?_
        show Steps p.tables e below (T0.setTop (mkF m 40 #[.val (.ref o), .val (.int n), .val (.int v38), .val (.int i), .val (.int (5 : Int32))] [(.int v38)])) _
        refine XS.iconst X0.here hx rfl (hb hby d2_40) ?_
        show Steps p.tables e below (T0.setTop (mkF m 41 #[.val (.ref o), .val (.int n), .val (.int v38), .val (.int i), .val (.int (5 : Int32))] [(.int (1 : Int32)), (.int v38)])) _
        refine XS.ishl X0.here hx rfl (hb hby d2_41) rfl ?_
        show Steps p.tables e below (T0.setTop (mkF m 42 #[.val (.ref o), .val (.int n), .val (.int v38), .val (.int i), .val (.int (5 : Int32))] [(.int (v38 <<< ((1 : Int32) &&& 31)))])) _
        refine XS.sipush X0.here hx rfl (hb hby d2_42) ?_
        show Steps p.tables e below (T0.setTop (mkF m 45 #[.val (.ref o), .val (.int n), .val (.int v38), .val (.int i), .val (.int (5 : Int32))] [(.int (4129 : Int32)), (.int (v38 <<< ((1 : Int32) &&& 31)))])) _
        refine XS.ixor X0.here hx rfl (hb hby d2_45) rfl ?_
        show Steps p.tables e below (T0.setTop (mkF m 46 #[.val (.ref o), .val (.int n), .val (.int v38), .val (.int i), .val (.int (5 : Int32))] [(.int ((v38 <<< ((1 : Int32) &&& 31)) ^^^ (4129 : Int32)))])) _
        refine XS.goto X0.here hx rfl (pc0 := 46) (pc' := 52) rfl (hb hby d2_46) (by decide) (by decide) ?_
        exact ktx
      exact ⟨_, (if_neg hc42_36).symm, go44⟩
  have hc47_29 : (6 : Int32) < (8 : Int32) := (by decide)
  have go48 : own_go p e below (T0.setTop (mkF m 4 #[.val (.ref o), .val (.int n), .val (.int cc), .val (.int i), s4] [])) (T0.setTop (mkF m 36 #[.val (.ref o), .val (.int n), .val (.int v45), .val (.int i), .val (.int (6 : Int32))] [(.int (v45 &&& (32768 : Int32)))])) := by
    intro ttx ktx
    refine go46 ttx ?_
    show Steps p.tables e below (T0.setTop (mkF m 52 #[.val (.ref o), .val (.int n), .val (.int v38), .val (.int i), .val (.int (5 : Int32))] [(.int v45)])) _
    refine XS.istoreN X0.here hx rfl (hb hby d2_52) rfl (l' := #[.val (.ref o), .val (.int n), .val (.int v45), .val (.int i), .val (.int (5 : Int32))]) rfl ?_
    show Steps p.tables e below (T0.setTop (mkF m 53 #[.val (.ref o), .val (.int n), .val (.int v45), .val (.int i), .val (.int (5 : Int32))] [])) _
    refine XS.iinc X0.here hx rfl (hb hby d2_53) rfl (l' := #[.val (.ref o), .val (.int n), .val (.int v45), .val (.int i), .val (.int (6 : Int32))]) rfl ?_
    show Steps p.tables e below (T0.setTop (mkF m 56 #[.val (.ref o), .val (.int n), .val (.int v45), .val (.int i), .val (.int (6 : Int32))] [])) _
    refine XS.goto X0.here hx rfl (pc0 := 56) (pc' := 25) rfl (hb hby d2_56) (by decide) (by decide) ?_
    show Steps p.tables e below (T0.setTop (mkF m 25 #[.val (.ref o), .val (.int n), .val (.int v45), .val (.int i), .val (.int (6 : Int32))] [])) _
    refine XS.iload X0.here hx rfl (hb hby d2_25) rfl ?_
    show Steps p.tables e below (T0.setTop (mkF m 27 #[.val (.ref o), .val (.int n), .val (.int v45), .val (.int i), .val (.int (6 : Int32))] [(.int (6 : Int32))])) _
    refine XS.bipush X0.here hx rfl (hb hby d2_27) ?_
    show Steps p.tables e below (T0.setTop (mkF m 29 #[.val (.ref o), .val (.int n), .val (.int v45), .val (.int i), .val (.int (6 : Int32))] [(.int (8 : Int32)), (.int (6 : Int32))])) _
    refine XS.icmpNo X0.here hx rfl (hb hby d2_29) rfl (tlt hc47_29).2.1 ?_
    show Steps p.tables e below (T0.setTop (mkF m 32 #[.val (.ref o), .val (.int n), .val (.int v45), .val (.int i), .val (.int (6 : Int32))] [])) _
    refine XS.iloadN X0.here hx rfl (hb hby d2_32) rfl ?_
    show Steps p.tables e below (T0.setTop (mkF m 33 #[.val (.ref o), .val (.int n), .val (.int v45), .val (.int i), .val (.int (6 : Int32))] [(.int v45)])) _
    refine X0.ldcInt hx hown (mvT hZ (hw _ (List.mem_of_getElem? (i := 9) rfl))) (g := (mkF m 33 #[.val (.ref o), .val (.int n), .val (.int v45), .val (.int i), .val (.int (6 : Int32))] [(.int v45)])) rfl (hb hby d2_33) _ ?_
    show Steps p.tables e below (T0.setTop (mkF m 35 #[.val (.ref o), .val (.int n), .val (.int v45), .val (.int i), .val (.int (6 : Int32))] [(.int (32768 : Int32)), (.int v45)])) _
    refine XS.iand X0.here hx rfl (hb hby d2_35) rfl ?_
    exact ktx
  obtain ⟨v52, hv_v52, go53⟩ : ∃ (v52 : Int32), v52 = (if (v45 &&& (32768 : Int32)) = (0 : Int32) then (v45 <<< ((1 : Int32) &&& 31)) else ((v45 <<< ((1 : Int32) &&& 31)) ^^^ (4129 : Int32))) ∧ own_go p e below (T0.setTop (mkF m 4 #[.val (.ref o), .val (.int n), .val (.int cc), .val (.int i), s4] [])) (T0.setTop (mkF m 52 #[.val (.ref o), .val (.int n), .val (.int v45), .val (.int i), .val (.int (6 : Int32))] [(.int v52)])) := by
    by_cases hc49_36 : (v45 &&& (32768 : Int32)) = (0 : Int32)
    · have go50 : own_go p e below (T0.setTop (mkF m 4 #[.val (.ref o), .val (.int n), .val (.int cc), .val (.int i), s4] [])) (T0.setTop (mkF m 52 #[.val (.ref o), .val (.int n), .val (.int v45), .val (.int i), .val (.int (6 : Int32))] [(.int (v45 <<< ((1 : Int32) &&& 31)))])) := by
        intro ttx ktx
        refine go48 ttx ?_
        show Steps p.tables e below (T0.setTop (mkF m 36 #[.val (.ref o), .val (.int n), .val (.int v45), .val (.int i), .val (.int (6 : Int32))] [(.int (v45 &&& (32768 : Int32)))])) _
        refine XS.ifYes X0.here hx rfl (pc0 := 36) (pc' := 49) rfl (hb hby d2_36) rfl ((if0 _ _).trans (teq hc49_36).1) (by decide) (by decide) ?_
        show Steps p.tables e below (T0.setTop (mkF m 49 #[.val (.ref o), .val (.int n), .val (.int v45), .val (.int i), .val (.int (6 : Int32))] [])) _
        refine XS.iloadN X0.here hx rfl (hb hby d2_49) rfl ?_
        show Steps p.tables e below (T0.setTop (mkF m 50 #[.val (.ref o), .val (.int n), .val (.int v45), .val (.int i), .val (.int (6 : Int32))] [(.int v45)])) _
        refine XS.iconst X0.here hx rfl (hb hby d2_50) ?_
        show Steps p.tables e below (T0.setTop (mkF m 51 #[.val (.ref o), .val (.int n), .val (.int v45), .val (.int i), .val (.int (6 : Int32))] [(.int (1 : Int32)), (.int v45)])) _
        refine XS.ishl X0.here hx rfl (hb hby d2_51) rfl ?_
        exact ktx
      exact ⟨_, (if_pos hc49_36).symm, go50⟩
    · have go51 : own_go p e below (T0.setTop (mkF m 4 #[.val (.ref o), .val (.int n), .val (.int cc), .val (.int i), s4] [])) (T0.setTop (mkF m 52 #[.val (.ref o), .val (.int n), .val (.int v45), .val (.int i), .val (.int (6 : Int32))] [(.int ((v45 <<< ((1 : Int32) &&& 31)) ^^^ (4129 : Int32)))])) := by
        intro ttx ktx
        refine go48 ttx ?_
        show Steps p.tables e below (T0.setTop (mkF m 36 #[.val (.ref o), .val (.int n), .val (.int v45), .val (.int i), .val (.int (6 : Int32))] [(.int (v45 &&& (32768 : Int32)))])) _
        refine XS.ifNo X0.here hx rfl (hb hby d2_36) rfl ((if0 _ _).trans (feq hc49_36).1) ?_
        show Steps p.tables e below (T0.setTop (mkF m 39 #[.val (.ref o), .val (.int n), .val (.int v45), .val (.int i), .val (.int (6 : Int32))] [])) _
        refine XS.iloadN X0.here hx rfl (hb hby d2_39) rfl ?_
        show Steps p.tables e below (T0.setTop (mkF m 40 #[.val (.ref o), .val (.int n), .val (.int v45), .val (.int i), .val (.int (6 : Int32))] [(.int v45)])) _
        refine XS.iconst X0.here hx rfl (hb hby d2_40) ?_
        show Steps p.tables e below (T0.setTop (mkF m 41 #[.val (.ref o), .val (.int n), .val (.int v45), .val (.int i), .val (.int (6 : Int32))] [(.int (1 : Int32)), (.int v45)])) _
        refine XS.ishl X0.here hx rfl (hb hby d2_41) rfl ?_
        show Steps p.tables e below (T0.setTop (mkF m 42 #[.val (.ref o), .val (.int n), .val (.int v45), .val (.int i), .val (.int (6 : Int32))] [(.int (v45 <<< ((1 : Int32) &&& 31)))])) _
        refine XS.sipush X0.here hx rfl (hb hby d2_42) ?_
        show Steps p.tables e below (T0.setTop (mkF m 45 #[.val (.ref o), .val (.int n), .val (.int v45), .val (.int i), .val (.int (6 : Int32))] [(.int (4129 : Int32)), (.int (v45 <<< ((1 : Int32) &&& 31)))])) _
        refine XS.ixor X0.here hx rfl (hb hby d2_45) rfl ?_
        show Steps p.tables e below (T0.setTop (mkF m 46 #[.val (.ref o), .val (.int n), .val (.int v45), .val (.int i), .val (.int (6 : Int32))] [(.int ((v45 <<< ((1 : Int32) &&& 31)) ^^^ (4129 : Int32)))])) _
        refine XS.goto X0.here hx rfl (pc0 := 46) (pc' := 52) rfl (hb hby d2_46) (by decide) (by decide) ?_
        exact ktx
      exact ⟨_, (if_neg hc49_36).symm, go51⟩
  have hc54_29 : (7 : Int32) < (8 : Int32) := (by decide)
  have go55 : own_go p e below (T0.setTop (mkF m 4 #[.val (.ref o), .val (.int n), .val (.int cc), .val (.int i), s4] [])) (T0.setTop (mkF m 36 #[.val (.ref o), .val (.int n), .val (.int v52), .val (.int i), .val (.int (7 : Int32))] [(.int (v52 &&& (32768 : Int32)))])) := by
    intro ttx ktx
    refine go53 ttx ?_
    show Steps p.tables e below (T0.setTop (mkF m 52 #[.val (.ref o), .val (.int n), .val (.int v45), .val (.int i), .val (.int (6 : Int32))] [(.int v52)])) _
    refine XS.istoreN X0.here hx rfl (hb hby d2_52) rfl (l' := #[.val (.ref o), .val (.int n), .val (.int v52), .val (.int i), .val (.int (6 : Int32))]) rfl ?_
    show Steps p.tables e below (T0.setTop (mkF m 53 #[.val (.ref o), .val (.int n), .val (.int v52), .val (.int i), .val (.int (6 : Int32))] [])) _
    refine XS.iinc X0.here hx rfl (hb hby d2_53) rfl (l' := #[.val (.ref o), .val (.int n), .val (.int v52), .val (.int i), .val (.int (7 : Int32))]) rfl ?_
    show Steps p.tables e below (T0.setTop (mkF m 56 #[.val (.ref o), .val (.int n), .val (.int v52), .val (.int i), .val (.int (7 : Int32))] [])) _
    refine XS.goto X0.here hx rfl (pc0 := 56) (pc' := 25) rfl (hb hby d2_56) (by decide) (by decide) ?_
    show Steps p.tables e below (T0.setTop (mkF m 25 #[.val (.ref o), .val (.int n), .val (.int v52), .val (.int i), .val (.int (7 : Int32))] [])) _
    refine XS.iload X0.here hx rfl (hb hby d2_25) rfl ?_
    show Steps p.tables e below (T0.setTop (mkF m 27 #[.val (.ref o), .val (.int n), .val (.int v52), .val (.int i), .val (.int (7 : Int32))] [(.int (7 : Int32))])) _
    refine XS.bipush X0.here hx rfl (hb hby d2_27) ?_
    show Steps p.tables e below (T0.setTop (mkF m 29 #[.val (.ref o), .val (.int n), .val (.int v52), .val (.int i), .val (.int (7 : Int32))] [(.int (8 : Int32)), (.int (7 : Int32))])) _
    refine XS.icmpNo X0.here hx rfl (hb hby d2_29) rfl (tlt hc54_29).2.1 ?_
    show Steps p.tables e below (T0.setTop (mkF m 32 #[.val (.ref o), .val (.int n), .val (.int v52), .val (.int i), .val (.int (7 : Int32))] [])) _
    refine XS.iloadN X0.here hx rfl (hb hby d2_32) rfl ?_
    show Steps p.tables e below (T0.setTop (mkF m 33 #[.val (.ref o), .val (.int n), .val (.int v52), .val (.int i), .val (.int (7 : Int32))] [(.int v52)])) _
    refine X0.ldcInt hx hown (mvT hZ (hw _ (List.mem_of_getElem? (i := 9) rfl))) (g := (mkF m 33 #[.val (.ref o), .val (.int n), .val (.int v52), .val (.int i), .val (.int (7 : Int32))] [(.int v52)])) rfl (hb hby d2_33) _ ?_
    show Steps p.tables e below (T0.setTop (mkF m 35 #[.val (.ref o), .val (.int n), .val (.int v52), .val (.int i), .val (.int (7 : Int32))] [(.int (32768 : Int32)), (.int v52)])) _
    refine XS.iand X0.here hx rfl (hb hby d2_35) rfl ?_
    exact ktx
  obtain ⟨v59, hv_v59, go60⟩ : ∃ (v59 : Int32), v59 = (if (v52 &&& (32768 : Int32)) = (0 : Int32) then (v52 <<< ((1 : Int32) &&& 31)) else ((v52 <<< ((1 : Int32) &&& 31)) ^^^ (4129 : Int32))) ∧ own_go p e below (T0.setTop (mkF m 4 #[.val (.ref o), .val (.int n), .val (.int cc), .val (.int i), s4] [])) (T0.setTop (mkF m 52 #[.val (.ref o), .val (.int n), .val (.int v52), .val (.int i), .val (.int (7 : Int32))] [(.int v59)])) := by
    by_cases hc56_36 : (v52 &&& (32768 : Int32)) = (0 : Int32)
    · have go57 : own_go p e below (T0.setTop (mkF m 4 #[.val (.ref o), .val (.int n), .val (.int cc), .val (.int i), s4] [])) (T0.setTop (mkF m 52 #[.val (.ref o), .val (.int n), .val (.int v52), .val (.int i), .val (.int (7 : Int32))] [(.int (v52 <<< ((1 : Int32) &&& 31)))])) := by
        intro ttx ktx
        refine go55 ttx ?_
        show Steps p.tables e below (T0.setTop (mkF m 36 #[.val (.ref o), .val (.int n), .val (.int v52), .val (.int i), .val (.int (7 : Int32))] [(.int (v52 &&& (32768 : Int32)))])) _
        refine XS.ifYes X0.here hx rfl (pc0 := 36) (pc' := 49) rfl (hb hby d2_36) rfl ((if0 _ _).trans (teq hc56_36).1) (by decide) (by decide) ?_
        show Steps p.tables e below (T0.setTop (mkF m 49 #[.val (.ref o), .val (.int n), .val (.int v52), .val (.int i), .val (.int (7 : Int32))] [])) _
        refine XS.iloadN X0.here hx rfl (hb hby d2_49) rfl ?_
        show Steps p.tables e below (T0.setTop (mkF m 50 #[.val (.ref o), .val (.int n), .val (.int v52), .val (.int i), .val (.int (7 : Int32))] [(.int v52)])) _
        refine XS.iconst X0.here hx rfl (hb hby d2_50) ?_
        show Steps p.tables e below (T0.setTop (mkF m 51 #[.val (.ref o), .val (.int n), .val (.int v52), .val (.int i), .val (.int (7 : Int32))] [(.int (1 : Int32)), (.int v52)])) _
        refine XS.ishl X0.here hx rfl (hb hby d2_51) rfl ?_
        exact ktx
      exact ⟨_, (if_pos hc56_36).symm, go57⟩
    · have go58 : own_go p e below (T0.setTop (mkF m 4 #[.val (.ref o), .val (.int n), .val (.int cc), .val (.int i), s4] [])) (T0.setTop (mkF m 52 #[.val (.ref o), .val (.int n), .val (.int v52), .val (.int i), .val (.int (7 : Int32))] [(.int ((v52 <<< ((1 : Int32) &&& 31)) ^^^ (4129 : Int32)))])) := by
        intro ttx ktx
        refine go55 ttx ?_
        show Steps p.tables e below (T0.setTop (mkF m 36 #[.val (.ref o), .val (.int n), .val (.int v52), .val (.int i), .val (.int (7 : Int32))] [(.int (v52 &&& (32768 : Int32)))])) _
        refine XS.ifNo X0.here hx rfl (hb hby d2_36) rfl ((if0 _ _).trans (feq hc56_36).1) ?_
        show Steps p.tables e below (T0.setTop (mkF m 39 #[.val (.ref o), .val (.int n), .val (.int v52), .val (.int i), .val (.int (7 : Int32))] [])) _
        refine XS.iloadN X0.here hx rfl (hb hby d2_39) rfl ?_
        show Steps p.tables e below (T0.setTop (mkF m 40 #[.val (.ref o), .val (.int n), .val (.int v52), .val (.int i), .val (.int (7 : Int32))] [(.int v52)])) _
        refine XS.iconst X0.here hx rfl (hb hby d2_40) ?_
        show Steps p.tables e below (T0.setTop (mkF m 41 #[.val (.ref o), .val (.int n), .val (.int v52), .val (.int i), .val (.int (7 : Int32))] [(.int (1 : Int32)), (.int v52)])) _
        refine XS.ishl X0.here hx rfl (hb hby d2_41) rfl ?_
        show Steps p.tables e below (T0.setTop (mkF m 42 #[.val (.ref o), .val (.int n), .val (.int v52), .val (.int i), .val (.int (7 : Int32))] [(.int (v52 <<< ((1 : Int32) &&& 31)))])) _
        refine XS.sipush X0.here hx rfl (hb hby d2_42) ?_
        show Steps p.tables e below (T0.setTop (mkF m 45 #[.val (.ref o), .val (.int n), .val (.int v52), .val (.int i), .val (.int (7 : Int32))] [(.int (4129 : Int32)), (.int (v52 <<< ((1 : Int32) &&& 31)))])) _
        refine XS.ixor X0.here hx rfl (hb hby d2_45) rfl ?_
        show Steps p.tables e below (T0.setTop (mkF m 46 #[.val (.ref o), .val (.int n), .val (.int v52), .val (.int i), .val (.int (7 : Int32))] [(.int ((v52 <<< ((1 : Int32) &&& 31)) ^^^ (4129 : Int32)))])) _
        refine XS.goto X0.here hx rfl (pc0 := 46) (pc' := 52) rfl (hb hby d2_46) (by decide) (by decide) ?_
        exact ktx
      exact ⟨_, (if_neg hc56_36).symm, go58⟩
  have hc61_29 : ¬ ((8 : Int32) < (8 : Int32)) := (by decide)
  have go62 : own_go p e below (T0.setTop (mkF m 4 #[.val (.ref o), .val (.int n), .val (.int cc), .val (.int i), s4] [])) (T0.setTop (mkF m 4 #[.val (.ref o), .val (.int n), .val (.int v59), .val (.int (i + (1 : Int32))), .val (.int (8 : Int32))] [])) := by
    intro ttx ktx
    refine go60 ttx ?_
    show Steps p.tables e below (T0.setTop (mkF m 52 #[.val (.ref o), .val (.int n), .val (.int v52), .val (.int i), .val (.int (7 : Int32))] [(.int v59)])) _
    refine XS.istoreN X0.here hx rfl (hb hby d2_52) rfl (l' := #[.val (.ref o), .val (.int n), .val (.int v59), .val (.int i), .val (.int (7 : Int32))]) rfl ?_
    show Steps p.tables e below (T0.setTop (mkF m 53 #[.val (.ref o), .val (.int n), .val (.int v59), .val (.int i), .val (.int (7 : Int32))] [])) _
    refine XS.iinc X0.here hx rfl (hb hby d2_53) rfl (l' := #[.val (.ref o), .val (.int n), .val (.int v59), .val (.int i), .val (.int (8 : Int32))]) rfl ?_
    show Steps p.tables e below (T0.setTop (mkF m 56 #[.val (.ref o), .val (.int n), .val (.int v59), .val (.int i), .val (.int (8 : Int32))] [])) _
    refine XS.goto X0.here hx rfl (pc0 := 56) (pc' := 25) rfl (hb hby d2_56) (by decide) (by decide) ?_
    show Steps p.tables e below (T0.setTop (mkF m 25 #[.val (.ref o), .val (.int n), .val (.int v59), .val (.int i), .val (.int (8 : Int32))] [])) _
    refine XS.iload X0.here hx rfl (hb hby d2_25) rfl ?_
    show Steps p.tables e below (T0.setTop (mkF m 27 #[.val (.ref o), .val (.int n), .val (.int v59), .val (.int i), .val (.int (8 : Int32))] [(.int (8 : Int32))])) _
    refine XS.bipush X0.here hx rfl (hb hby d2_27) ?_
    show Steps p.tables e below (T0.setTop (mkF m 29 #[.val (.ref o), .val (.int n), .val (.int v59), .val (.int i), .val (.int (8 : Int32))] [(.int (8 : Int32)), (.int (8 : Int32))])) _
    refine XS.icmpYes X0.here hx rfl (pc0 := 29) (pc' := 59) rfl (hb hby d2_29) rfl (flt hc61_29).2.1 (by decide) (by decide) ?_
    show Steps p.tables e below (T0.setTop (mkF m 59 #[.val (.ref o), .val (.int n), .val (.int v59), .val (.int i), .val (.int (8 : Int32))] [])) _
    refine XS.iinc X0.here hx rfl (hb hby d2_59) rfl (l' := #[.val (.ref o), .val (.int n), .val (.int v59), .val (.int (i + (1 : Int32))), .val (.int (8 : Int32))]) rfl ?_
    show Steps p.tables e below (T0.setTop (mkF m 62 #[.val (.ref o), .val (.int n), .val (.int v59), .val (.int (i + (1 : Int32))), .val (.int (8 : Int32))] [])) _
    refine XS.goto X0.here hx rfl (pc0 := 62) (pc' := 4) rfl (hb hby d2_62) (by decide) (by decide) ?_
    exact ktx
  have hb_v10 : v10 = own_bit v3 := hv_v10
  have hb_v17 : v17 = own_bit v10 := hv_v17
  have hb_v24 : v24 = own_bit v17 := hv_v24
  have hb_v31 : v31 = own_bit v24 := hv_v31
  have hb_v38 : v38 = own_bit v31 := hv_v38
  have hb_v45 : v45 = own_bit v38 := hv_v45
  have hb_v52 : v52 = own_bit v45 := hv_v52
  have hb_v59 : v59 = own_bit v52 := hv_v59
  have hby8 : v59 = own_byte cc (bs.getD i.toNatClampNeg 0) := by rw [hb_v59, hb_v52, hb_v45, hb_v38, hb_v31, hb_v24, hb_v17, hb_v10, hv_v3]; rfl
  obtain ⟨cv, hcv⟩ : ∃ q, q = v59 := ⟨_, rfl⟩
  rw [← hcv] at go62
  exact ⟨T0, h0, _, cv, X0, e0, N0, rfl, hcv.trans hby8, go62⟩
set_option maxRecDepth 65536 in
set_option maxHeartbeats 40000000 in
theorem own_leave {p : Program} {l : Launch} {e : Env} {s : State} {m : MethodId} {args : Array Value} {below : List Frame} {meth : Method} {c : Code} {T0 : State} {locs : List Loc} {Z : State} {a0 : Array Value} {h0 : Heap} {n0 : Nat} (o : Addr) (n cc i : Int32) (s4 : Slot) (kc : ClassId) (z : Int32) (bs : List Int32)
    (X0 : Stand p l e ({ frames := 0, cells := 0, slots := 0, locals := 0 } : Room) s m args below meth c T0 locs 0 0) (hx : p.tables.exec = Jvm.exec) (hZ : Z.Warmed39 s.vm) (hw : ∀ d ∈ tables_1, d.before a0 Z = true) (hby : c.code = prog_31_method_2_code) (hml : c.maxLocals = 5) (hown : s.vm.findClass "io/subjectwire/auth/Crc16" = some m.cls) (e0 : T0.heap = h0) (Z0 : n0 ≤ h0.size) (N0 : Fr n0 locs) (V_o : Arv Z h0 o kc .byte z (bs.map Value.int) (.int (0 : Int32))) (hc : ¬ i < n) :
    ∃ (T' : State) (h' : Heap) (locs' : List Loc), Stand p l e ({ frames := 0, cells := 0, slots := 0, locals := 0 } : Room) s m args below meth c T' locs' 0 0 ∧ T'.heap = h' ∧ Fr n0 locs' ∧ h' = h0 ∧ own_go p e below (T0.setTop (mkF m 4 #[.val (.ref o), .val (.int n), .val (.int cc), .val (.int i), s4] [])) (T'.setTop (mkF m 65 #[.val (.ref o), .val (.int n), .val (.int cc), .val (.int i), s4] [])) := by
  have go0 : own_go p e below (T0.setTop (mkF m 4 #[.val (.ref o), .val (.int n), .val (.int cc), .val (.int i), s4] [])) (T0.setTop (mkF m 4 #[.val (.ref o), .val (.int n), .val (.int cc), .val (.int i), s4] [])) := fun t k => k
  have hc1_6 : ¬ (i < n) := hc
  have go2 : own_go p e below (T0.setTop (mkF m 4 #[.val (.ref o), .val (.int n), .val (.int cc), .val (.int i), s4] [])) (T0.setTop (mkF m 65 #[.val (.ref o), .val (.int n), .val (.int cc), .val (.int i), s4] [])) := by
    intro ttx ktx
    refine go0 ttx ?_
    show Steps p.tables e below (T0.setTop (mkF m 4 #[.val (.ref o), .val (.int n), .val (.int cc), .val (.int i), s4] [])) _
    refine XS.iloadN X0.here hx rfl (hb hby d2_4) rfl ?_
    show Steps p.tables e below (T0.setTop (mkF m 5 #[.val (.ref o), .val (.int n), .val (.int cc), .val (.int i), s4] [(.int i)])) _
    refine XS.iloadN X0.here hx rfl (hb hby d2_5) rfl ?_
    show Steps p.tables e below (T0.setTop (mkF m 6 #[.val (.ref o), .val (.int n), .val (.int cc), .val (.int i), s4] [(.int n), (.int i)])) _
    refine XS.icmpYes X0.here hx rfl (pc0 := 6) (pc' := 65) rfl (hb hby d2_6) rfl (flt hc1_6).2.1 (by decide) (by decide) ?_
    exact ktx
  exact ⟨T0, h0, _, X0, e0, N0, rfl, go2⟩
set_option maxHeartbeats 4000000 in
theorem own_loop {p : Program} {l : Launch} {e : Env} {s : State} {m : MethodId} {args : Array Value} {below : List Frame} {meth : Method} {c : Code} {Z : State} {a0 : Array Value} {n0 : Nat} (o : Addr) (kc : ClassId) (z : Int32) (bs : List Int32) (N : Nat) (hN : N ≤ 20) (hNz : (N : Int) ≤ z.toInt) {h0 : Heap} (Z0 : n0 ≤ h0.size) (V_o : Arv Z h0 o kc .byte z (bs.map Value.int) (.int (0 : Int32)))
    (hx : p.tables.exec = Jvm.exec) (hZ : Z.Warmed39 s.vm) (hw : ∀ d ∈ tables_1, d.before a0 Z = true) (hby : c.code = prog_31_method_2_code) (hml : c.maxLocals = 5) (hown : s.vm.findClass "io/subjectwire/auth/Crc16" = some m.cls) :
    ∀ (k j : Nat) (cc : Int32) (s4 : Slot) (T0 : State) (locs : List Loc), Stand p l e ({ frames := 0, cells := 0, slots := 0, locals := 0 } : Room) s m args below meth c T0 locs 0 0 → T0.heap = h0 → Fr n0 locs → One s4 → j + k = N →
    ∃ (T' : State) (locs' : List Loc) (i' : Int32) (s4' : Slot), Stand p l e ({ frames := 0, cells := 0, slots := 0, locals := 0 } : Room) s m args below meth c T' locs' 0 0 ∧ T'.heap = h0 ∧ Fr n0 locs' ∧ own_go p e below (T0.setTop (mkF m 4 #[.val (.ref o), .val (.int (Int32.ofNat N)), .val (.int cc), .val (.int (Int32.ofNat j)), s4] [])) (T'.setTop (mkF m 65 #[.val (.ref o), .val (.int (Int32.ofNat N)), .val (.int (own_run bs j k cc)), .val (.int i'), s4'] [])) := by
  intro k
  induction k with
  | zero =>
    intro j cc s4 T0 locs X0 e0 N0 hs4 hj
    have e1 := own_of j (by omega)
    have e2 := own_of N (by omega)
    have hc : ¬ Int32.ofNat j < Int32.ofNat N := by rw [Int32.lt_iff_toInt_lt]; omega
    obtain ⟨T1, h1, L1, X1, e1, N1, rfl, go1⟩ := own_leave o (Int32.ofNat N) cc (Int32.ofNat j) s4 kc z bs X0 hx hZ hw hby hml hown e0 Z0 N0 V_o hc
    exact ⟨T1, L1, _, _, X1, e1, N1, go1⟩
  | succ k ih =>
    intro j cc s4 T0 locs X0 e0 N0 hs4 hj
    have e1 := own_of j (by omega)
    have e2 := own_of N (by omega)
    have e0' : (0 : Int32).toInt = 0 := rfl
    have hc : Int32.ofNat j < Int32.ofNat N := by rw [Int32.lt_iff_toInt_lt]; omega
    have hz : ¬ Int32.ofNat j < 0 ∧ Int32.ofNat j < z := by rw [Int32.lt_iff_toInt_lt, Int32.lt_iff_toInt_lt]; omega
    have ej : (Int32.ofNat j).toNatClampNeg = j := by rw [own_tn]; omega
    obtain ⟨T1, h1, L1, cv, X1, e1, N1, rfl, hcv, go1⟩ := own_turn o (Int32.ofNat N) cc (Int32.ofNat j) s4 kc z bs X0 hx hZ hw hby hml hown e0 Z0 N0 V_o hs4 hz hc
    rw [ej] at hcv
    subst hcv
    rw [own_up] at go1
    obtain ⟨T2, L2, i2, s42, X2, e2, N2, go2⟩ := ih (j + 1) _ (.val (.int (8 : Int32))) T1 L1 X1 e1 N1 (One.val rfl) (by omega)
    exact ⟨T2, L2, i2, s42, X2, e2, N2, fun t k => go1 t (go2 t k)⟩
theorem d2_0 : decode prog_31_method_2_code 0 = .ok (.iconst 0, 1) := by decide +kernel
theorem d2_1 : decode prog_31_method_2_code 1 = .ok (.istore_n 2, 1) := by decide +kernel
theorem d2_2 : decode prog_31_method_2_code 2 = .ok (.iconst 0, 1) := by decide +kernel
theorem d2_3 : decode prog_31_method_2_code 3 = .ok (.istore_n 3, 1) := by decide +kernel
theorem d2_65 : decode prog_31_method_2_code 65 = .ok (.iload_n 2, 1) := by decide +kernel
theorem d2_66 : decode prog_31_method_2_code 66 = .ok (.ldc 10, 2) := by decide +kernel
theorem d2_68 : decode prog_31_method_2_code 68 = .ok (.iand, 1) := by decide +kernel
theorem d2_69 : decode prog_31_method_2_code 69 = .ok (.ireturn, 1) := by decide +kernel
theorem own_pn_io_subjectwire_auth_Crc16 : plainName "io/subjectwire/auth/Crc16" = true := by first | (simp [plainName, overriddenIn]; done) | decide +kernel
theorem ef_OF (m : MethodId) (x0 : Addr) (x1 : Int32) : entryFrame m #[(.ref x0), (.int x1)] 5 = mkF m 0 #[.val (.ref x0), .val (.int x1), .unset, .unset, .unset] [] := by first | (simp [entryFrame, mkF, argsToLocals, Value.category]; done) | rfl
def QOF (Z : State) (a1 : Addr) (p2 : Int32) (nn : Nat) (kc : ClassId) (z : Int32) (bs : List Int32) (h0 : Heap) (n0 : Nat) (v : Option Value) (h : Heap) (L : List Loc) : Prop := ∃ r : Int32, v = some (.int r) ∧ Fr n0 L ∧ h = h0 ∧ r = ((own_run bs 0 nn (0 : Int32)) &&& (65535 : Int32))
set_option maxRecDepth 65536 in
set_option maxHeartbeats 40000000 in
theorem rmOF (l : Launch) (Z : State) (a0 : Array Value) (hw : ∀ d ∈ tables_1, d.before a0 Z = true) (ws : List Jvm.Cond) (a1 : Addr) (p2 : Int32) (nn : Nat) (kc : ClassId) (z : Int32) (bs : List Int32) (h0 : Heap) (n0 : Nat) (Z0 : n0 ≤ h0.size) (V_o : Arv Z h0 a1 kc .byte z (bs.map Value.int) (.int (0 : Int32))) (hp2 : p2 = Int32.ofNat nn) (hn : nn ≤ 20) (hnz : (nn : Int) ≤ z.toInt) :
    MetFree l (⟨"io/subjectwire/auth/Crc16", "of", "([BI)I"⟩ : MethodName) (head1 (Jvm.Cond.code (⟨"io/subjectwire/auth/Crc16", "of", "([BI)I"⟩ : MethodName) prog_31_method_2_code 5 (some .int) :: ws) ({ frames := 0, cells := 0, slots := 0, locals := 0 } : Room)) (fun aax UU => aax = #[(.ref a1), (.int p2)] ∧ Z.Warmed39 UU.vm ∧ UU.heap = h0) (fun _ _ _ _ _ => True) (fun _ UU oux UU' => ∃ rvx Lrx, oux = .returned rvx ∧ QOF Z a1 p2 nn kc z bs h0 n0 rvx UU'.heap Lrx ∧ FrameEnd UU oux UU' Lrx ({ frames := 0, cells := 0, slots := 0, locals := 0 } : Room).cells ({ frames := 0, cells := 0, slots := 0, locals := 0 } : Room).slots) := by
  refine MetFree.of_bodySF (plainFor_of_name own_pn_io_subjectwire_auth_Crc16) hisR ?_
  intro p e s m args below meth c s₁ Bd hml0 hP hK
  obtain ⟨rfl, hZ, hh⟩ := hP
  have hx := Bd.exec
  have hby := Bd.bytes
  have hml : c.maxLocals = 5 := hml0
  have hown : s.vm.findClass "io/subjectwire/auth/Crc16" = some m.cls := findClass_of_methodNamed Bd.named
  have hnm := (name_of_methodNamed Bd.named Bd.method).1
  have X0 : Stand p l e ({ frames := 0, cells := 0, slots := 0, locals := 0 } : Room) s m #[(.ref a1), (.int p2)] below meth c s₁ [] 0 0 := Stand.of_body Bd
  have e0 : s₁.heap = h0 := by rw [← hh, Bd.state]; rfl
  have N0 := Fr.nil n0
  have p0 : own_go p e below (s₁.setTop (entryFrame m #[(.ref a1), (.int p2)] 5)) (s₁.setTop (mkF m 0 #[.val (.ref a1), .val (.int p2), .unset, .unset, .unset] [])) := fun ttx ktx => castTop (ef_OF m a1 p2) ktx
  have go1 : own_go p e below (s₁.setTop (entryFrame m #[(.ref a1), (.int p2)] 5)) (s₁.setTop (mkF m 4 #[.val (.ref a1), .val (.int p2), .val (.int (0 : Int32)), .val (.int (0 : Int32)), .unset] [])) := by
    intro ttx ktx
    refine p0 ttx ?_
    show Steps p.tables e below (s₁.setTop (mkF m 0 #[.val (.ref a1), .val (.int p2), .unset, .unset, .unset] [])) _
    refine XS.iconst X0.here hx rfl (hb hby d2_0) ?_
    show Steps p.tables e below (s₁.setTop (mkF m 1 #[.val (.ref a1), .val (.int p2), .unset, .unset, .unset] [(.int (0 : Int32))])) _
    refine XS.istoreN X0.here hx rfl (hb hby d2_1) rfl (l' := #[.val (.ref a1), .val (.int p2), .val (.int (0 : Int32)), .unset, .unset]) rfl ?_
    show Steps p.tables e below (s₁.setTop (mkF m 2 #[.val (.ref a1), .val (.int p2), .val (.int (0 : Int32)), .unset, .unset] [])) _
    refine XS.iconst X0.here hx rfl (hb hby d2_2) ?_
    show Steps p.tables e below (s₁.setTop (mkF m 3 #[.val (.ref a1), .val (.int p2), .val (.int (0 : Int32)), .unset, .unset] [(.int (0 : Int32))])) _
    refine XS.istoreN X0.here hx rfl (hb hby d2_3) rfl (l' := #[.val (.ref a1), .val (.int p2), .val (.int (0 : Int32)), .val (.int (0 : Int32)), .unset]) rfl ?_
    exact ktx
  obtain ⟨T2, L2, i2, s42, X2, e2, N2, goL2⟩ := own_loop a1 kc z bs nn hn hnz Z0 V_o hx hZ hw hby hml hown nn 0 (0 : Int32) .unset _ _ X0 e0 N0 One.u (by omega)
  rw [← hp2] at goL2
  have go2 : own_go p e below (s₁.setTop (entryFrame m #[(.ref a1), (.int p2)] 5)) (T2.setTop (mkF m 65 #[.val (.ref a1), .val (.int p2), .val (.int (own_run bs 0 nn (0 : Int32))), .val (.int i2), s42] [])) := fun t k => go1 t (goL2 t k)
  have go3 : own_go p e below (s₁.setTop (entryFrame m #[(.ref a1), (.int p2)] 5)) (T2.setTop (mkF m 69 #[.val (.ref a1), .val (.int p2), .val (.int (own_run bs 0 nn (0 : Int32))), .val (.int i2), s42] [(.int ((own_run bs 0 nn (0 : Int32)) &&& (65535 : Int32)))])) := by
    intro ttx ktx
    refine go2 ttx ?_
    show Steps p.tables e below (T2.setTop (mkF m 65 #[.val (.ref a1), .val (.int p2), .val (.int (own_run bs 0 nn (0 : Int32))), .val (.int i2), s42] [])) _
    refine XS.iloadN X2.here hx rfl (hb hby d2_65) rfl ?_
    show Steps p.tables e below (T2.setTop (mkF m 66 #[.val (.ref a1), .val (.int p2), .val (.int (own_run bs 0 nn (0 : Int32))), .val (.int i2), s42] [(.int (own_run bs 0 nn (0 : Int32)))])) _
    refine X2.ldcInt hx hown (mvT hZ (hw _ (List.mem_of_getElem? (i := 10) rfl))) (g := (mkF m 66 #[.val (.ref a1), .val (.int p2), .val (.int (own_run bs 0 nn (0 : Int32))), .val (.int i2), s42] [(.int (own_run bs 0 nn (0 : Int32)))])) rfl (hb hby d2_66) _ ?_
    show Steps p.tables e below (T2.setTop (mkF m 68 #[.val (.ref a1), .val (.int p2), .val (.int (own_run bs 0 nn (0 : Int32))), .val (.int i2), s42] [(.int (65535 : Int32)), (.int (own_run bs 0 nn (0 : Int32)))])) _
    refine XS.iand X2.here hx rfl (hb hby d2_68) rfl ?_
    exact ktx
  obtain ⟨fs, hr, hrun, hended, hW, hsame⟩ := X2.leave (v := some (.int ((own_run bs 0 nn (0 : Int32)) &&& (65535 : Int32)))) (fun h => by rw [Bd.returns] at h; cases h)
  refine ⟨_, _, go3 _ ?_, hrun, hended, _, _, rfl, ?_, ⟨_, rfl⟩, hW, hsame.mono (by decide) (by decide)⟩
  · exact retI X2 hx Bd.returns (hb hby d2_69) hr
  · show QOF Z a1 p2 nn kc z bs h0 n0 _ T2.heap _
    rw [e2]
    exact ⟨_, rfl, N2, rfl, rfl⟩
theorem d1_0 : decode method_2_code 0 = .ok (.aload_n 0, 1) := by decide +kernel
theorem d1_1 : decode method_2_code 1 = .ok (.iload_n 1, 1) := by decide +kernel
theorem d1_2 : decode method_2_code 2 = .ok (.iload_n 2, 1) := by decide +kernel
theorem d1_3 : decode method_2_code 3 = .ok (.i2b, 1) := by decide +kernel
theorem d1_4 : decode method_2_code 4 = .ok (.bastore, 1) := by decide +kernel
theorem d1_5 : decode method_2_code 5 = .ok (.aload_n 0, 1) := by decide +kernel
theorem d1_6 : decode method_2_code 6 = .ok (.iload_n 1, 1) := by decide +kernel
theorem d1_7 : decode method_2_code 7 = .ok (.iconst 1, 1) := by decide +kernel
theorem d1_8 : decode method_2_code 8 = .ok (.iadd, 1) := by decide +kernel
theorem d1_9 : decode method_2_code 9 = .ok (.iload_n 2, 1) := by decide +kernel
theorem d1_10 : decode method_2_code 10 = .ok (.bipush 8, 2) := by decide +kernel
theorem d1_12 : decode method_2_code 12 = .ok (.iushr, 1) := by decide +kernel
theorem d1_13 : decode method_2_code 13 = .ok (.i2b, 1) := by decide +kernel
theorem d1_14 : decode method_2_code 14 = .ok (.bastore, 1) := by decide +kernel
theorem d1_15 : decode method_2_code 15 = .ok (.aload_n 0, 1) := by decide +kernel
theorem d1_16 : decode method_2_code 16 = .ok (.iload_n 1, 1) := by decide +kernel
theorem d1_17 : decode method_2_code 17 = .ok (.iconst 2, 1) := by decide +kernel
theorem d1_18 : decode method_2_code 18 = .ok (.iadd, 1) := by decide +kernel
theorem d1_19 : decode method_2_code 19 = .ok (.iload_n 2, 1) := by decide +kernel
theorem d1_20 : decode method_2_code 20 = .ok (.bipush 16, 2) := by decide +kernel
theorem d1_22 : decode method_2_code 22 = .ok (.iushr, 1) := by decide +kernel
theorem d1_23 : decode method_2_code 23 = .ok (.i2b, 1) := by decide +kernel
theorem d1_24 : decode method_2_code 24 = .ok (.bastore, 1) := by decide +kernel
theorem d1_25 : decode method_2_code 25 = .ok (.aload_n 0, 1) := by decide +kernel
theorem d1_26 : decode method_2_code 26 = .ok (.iload_n 1, 1) := by decide +kernel
theorem d1_27 : decode method_2_code 27 = .ok (.iconst 3, 1) := by decide +kernel
theorem d1_28 : decode method_2_code 28 = .ok (.iadd, 1) := by decide +kernel
theorem d1_29 : decode method_2_code 29 = .ok (.iload_n 2, 1) := by decide +kernel
theorem d1_30 : decode method_2_code 30 = .ok (.bipush 24, 2) := by decide +kernel
theorem d1_32 : decode method_2_code 32 = .ok (.iushr, 1) := by decide +kernel
theorem d1_33 : decode method_2_code 33 = .ok (.i2b, 1) := by decide +kernel
theorem d1_34 : decode method_2_code 34 = .ok (.bastore, 1) := by decide +kernel
theorem d1_35 : decode method_2_code 35 = .ok (.return_, 1) := by decide +kernel
theorem own_pn_io_subjectwire_auth_Crc16OfPinLaw : plainName "io/subjectwire/auth/Crc16OfPinLaw" = true := by first | (simp [plainName, overriddenIn]; done) | decide +kernel
theorem ef_PUT0 (m : MethodId) (x0 : Addr) (x2 : Int32) : entryFrame m #[(.ref x0), (.int (0 : Int32)), (.int x2)] 3 = mkF m 0 #[.val (.ref x0), .val (.int (0 : Int32)), .val (.int x2)] [] := by first | (simp [entryFrame, mkF, argsToLocals, Value.category]; done) | rfl
def QPUT0 (Z : State) (a1 : Addr) (p3 : Int32) (kc : ClassId) (yy0 : Int32) (yy1 : Int32) (yy2 : Int32) (yy3 : Int32) (yy4 : Int32) (yy5 : Int32) (yy6 : Int32) (yy7 : Int32) (h0 : Heap) (n0 : Nat) (v : Option Value) (h : Heap) (L : List Loc) : Prop := v = none ∧ Fr n0 L ∧ Keep h0 h [a1] ∧ Arv Z h a1 kc .byte (8 : Int32) [(.int ((p3.toInt8.toInt32).toInt8.toInt32)), (.int ((((p3.toUInt32 >>> ((8 : Int32) &&& 31).toUInt32).toInt32).toInt8.toInt32).toInt8.toInt32)), (.int ((((p3.toUInt32 >>> ((16 : Int32) &&& 31).toUInt32).toInt32).toInt8.toInt32).toInt8.toInt32)), (.int ((((p3.toUInt32 >>> ((24 : Int32) &&& 31).toUInt32).toInt32).toInt8.toInt32).toInt8.toInt32)), (.int yy4), (.int yy5), (.int yy6), (.int yy7)] (.int (0 : Int32))
set_option maxRecDepth 65536 in
set_option maxHeartbeats 40000000 in
theorem rmPUT0 (l : Launch) (Z : State) (a0 : Array Value) (hw : ∀ d ∈ tables_1, d.before a0 Z = true) (ws : List Jvm.Cond) (a1 : Addr) (p3 : Int32) (kc : ClassId) (yy0 : Int32) (yy1 : Int32) (yy2 : Int32) (yy3 : Int32) (yy4 : Int32) (yy5 : Int32) (yy6 : Int32) (yy7 : Int32) (h0 : Heap) (n0 : Nat) (Z0 : n0 ≤ h0.size) (V_a : Arv Z h0 a1 kc .byte (8 : Int32) [(.int yy0), (.int yy1), (.int yy2), (.int yy3), (.int yy4), (.int yy5), (.int yy6), (.int yy7)] (.int (0 : Int32))) (g_a1 : n0 ≤ a1) :
    MetFree l (⟨"io/subjectwire/auth/Crc16OfPinLaw", "put", "([BII)V"⟩ : MethodName) (head1 (Jvm.Cond.code (⟨"io/subjectwire/auth/Crc16OfPinLaw", "put", "([BII)V"⟩ : MethodName) method_2_code 3 none :: ws) ({ frames := 0, cells := 0, slots := 0, locals := 0 } : Room)) (fun aax UU => aax = #[(.ref a1), (.int (0 : Int32)), (.int p3)] ∧ Z.Warmed39 UU.vm ∧ UU.heap = h0) (fun _ _ _ _ _ => True) (fun _ UU oux UU' => ∃ rvx Lrx, oux = .returned rvx ∧ QPUT0 Z a1 p3 kc yy0 yy1 yy2 yy3 yy4 yy5 yy6 yy7 h0 n0 rvx UU'.heap Lrx ∧ FrameEnd UU oux UU' Lrx ({ frames := 0, cells := 0, slots := 0, locals := 0 } : Room).cells ({ frames := 0, cells := 0, slots := 0, locals := 0 } : Room).slots) := by
  refine MetFree.of_bodySF (plainFor_of_name own_pn_io_subjectwire_auth_Crc16OfPinLaw) hisR ?_
  intro p e s m args below meth c s₁ Bd hml0 hP hK
  obtain ⟨rfl, hZ, hh⟩ := hP
  have hx := Bd.exec
  have hby := Bd.bytes
  have hml : c.maxLocals = 3 := hml0
  have hown : s.vm.findClass "io/subjectwire/auth/Crc16OfPinLaw" = some m.cls := findClass_of_methodNamed Bd.named
  have hnm := (name_of_methodNamed Bd.named Bd.method).1
  have X0 : Stand p l e ({ frames := 0, cells := 0, slots := 0, locals := 0 } : Room) s m #[(.ref a1), (.int (0 : Int32)), (.int p3)] below meth c s₁ [] 0 0 := Stand.of_body Bd
  have e0 : s₁.heap = h0 := by rw [← hh, Bd.state]; rfl
  have N0 := Fr.nil n0
  have p0 : own_go p e below (s₁.setTop (entryFrame m #[(.ref a1), (.int (0 : Int32)), (.int p3)] 3)) (s₁.setTop (mkF m 0 #[.val (.ref a1), .val (.int (0 : Int32)), .val (.int p3)] [])) := fun ttx ktx => castTop (ef_PUT0 m a1 p3) ktx
  obtain ⟨cl1, Ar1, q1, S1, M1, H1, G1⟩ := id V_a
  have hin1 : ¬ ((0 : Int32) < 0 ∨ cl1.slots.size ≤ ((0 : Int32)).toNatClampNeg) := inb_of S1 ⟨by decide, by decide⟩
  obtain ⟨T2, h2, X2, e2, W2, st2⟩ := stB X0 hx hZ e0 Ar1 (j := (0 : Int32)) hin1 (g := (mkF m 4 #[.val (.ref a1), .val (.int (0 : Int32)), .val (.int p3)] [(.int (p3.toInt8.toInt32)), (.int (0 : Int32)), (.ref a1)])) rfl rfl (hb hby d1_4)
  have Z2 : n0 ≤ h2.size := Nat.le_trans Z0 (Nat.le_of_eq W2.size.symm)
  have K2 : Keep h0 h2 [a1] := (Keep.refl h0 [a1]).wr W2 (Or.inl (List.mem_of_getElem? (i := 0) rfl))
  have N2 := Fr.snoc X2 N0 g_a1
  have V2 : Arv Z h2 a1 kc .byte (8 : Int32) [(.int ((p3.toInt8.toInt32).toInt8.toInt32)), (.int yy1), (.int yy2), (.int yy3), (.int yy4), (.int yy5), (.int yy6), (.int yy7)] (.int (0 : Int32)) := Arv.set Ar1 q1 S1 M1 H1 G1 (fits_nar_byte _) W2 0 rfl (Nat.le_of_ble_eq_true rfl)
  obtain ⟨cl3, Ar3, q3, S3, M3, H3, G3⟩ := id V2
  have hin3 : ¬ ((1 : Int32) < 0 ∨ cl3.slots.size ≤ ((1 : Int32)).toNatClampNeg) := inb_of S3 ⟨by decide, by decide⟩
  obtain ⟨T4, h4, X4, e4, W4, st4⟩ := stB X2 hx hZ e2 Ar3 (j := (1 : Int32)) hin3 (g := (mkF m 14 #[.val (.ref a1), .val (.int (0 : Int32)), .val (.int p3)] [(.int (((p3.toUInt32 >>> ((8 : Int32) &&& 31).toUInt32).toInt32).toInt8.toInt32)), (.int (1 : Int32)), (.ref a1)])) rfl rfl (hb hby d1_14)
  have Z4 : n0 ≤ h4.size := Nat.le_trans Z2 (Nat.le_of_eq W4.size.symm)
  have K4 : Keep h0 h4 [a1] := K2.wr W4 (Or.inl (List.mem_of_getElem? (i := 0) rfl))
  have N4 := Fr.snoc X4 N2 g_a1
  have V4 : Arv Z h4 a1 kc .byte (8 : Int32) [(.int ((p3.toInt8.toInt32).toInt8.toInt32)), (.int ((((p3.toUInt32 >>> ((8 : Int32) &&& 31).toUInt32).toInt32).toInt8.toInt32).toInt8.toInt32)), (.int yy2), (.int yy3), (.int yy4), (.int yy5), (.int yy6), (.int yy7)] (.int (0 : Int32)) := Arv.set Ar3 q3 S3 M3 H3 G3 (fits_nar_byte _) W4 1 rfl (Nat.le_of_ble_eq_true rfl)
  have go5 : own_go p e below (s₁.setTop (entryFrame m #[(.ref a1), (.int (0 : Int32)), (.int p3)] 3)) (T4.setTop (mkF m 16 #[.val (.ref a1), .val (.int (0 : Int32)), .val (.int p3)] [(.ref a1)])) := by
    intro ttx ktx
    refine p0 ttx ?_
    show Steps p.tables e below (s₁.setTop (mkF m 0 #[.val (.ref a1), .val (.int (0 : Int32)), .val (.int p3)] [])) _
    refine XS.aloadN X0.here hx rfl (hb hby d1_0) rfl rfl ?_
    show Steps p.tables e below (s₁.setTop (mkF m 1 #[.val (.ref a1), .val (.int (0 : Int32)), .val (.int p3)] [(.ref a1)])) _
    refine XS.iloadN X0.here hx rfl (hb hby d1_1) rfl ?_
    show Steps p.tables e below (s₁.setTop (mkF m 2 #[.val (.ref a1), .val (.int (0 : Int32)), .val (.int p3)] [(.int (0 : Int32)), (.ref a1)])) _
    refine XS.iloadN X0.here hx rfl (hb hby d1_2) rfl ?_
    show Steps p.tables e below (s₁.setTop (mkF m 3 #[.val (.ref a1), .val (.int (0 : Int32)), .val (.int p3)] [(.int p3), (.int (0 : Int32)), (.ref a1)])) _
    refine XS.i2b X0.here hx rfl (hb hby d1_3) rfl ?_
    show Steps p.tables e below (s₁.setTop (mkF m 4 #[.val (.ref a1), .val (.int (0 : Int32)), .val (.int p3)] [(.int (p3.toInt8.toInt32)), (.int (0 : Int32)), (.ref a1)])) _
    refine st2 _ ?_
    show Steps p.tables e below (T2.setTop (mkF m 5 #[.val (.ref a1), .val (.int (0 : Int32)), .val (.int p3)] [])) _
    refine XS.aloadN X2.here hx rfl (hb hby d1_5) rfl rfl ?_
    show Steps p.tables e below (T2.setTop (mkF m 6 #[.val (.ref a1), .val (.int (0 : Int32)), .val (.int p3)] [(.ref a1)])) _
    refine XS.iloadN X2.here hx rfl (hb hby d1_6) rfl ?_
    show Steps p.tables e below (T2.setTop (mkF m 7 #[.val (.ref a1), .val (.int (0 : Int32)), .val (.int p3)] [(.int (0 : Int32)), (.ref a1)])) _
    refine XS.iconst X2.here hx rfl (hb hby d1_7) ?_
    show Steps p.tables e below (T2.setTop (mkF m 8 #[.val (.ref a1), .val (.int (0 : Int32)), .val (.int p3)] [(.int (1 : Int32)), (.int (0 : Int32)), (.ref a1)])) _
    refine XS.iadd X2.here hx rfl (hb hby d1_8) rfl ?_
    show Steps p.tables e below (T2.setTop (mkF m 9 #[.val (.ref a1), .val (.int (0 : Int32)), .val (.int p3)] [(.int (1 : Int32)), (.ref a1)])) _
    refine XS.iloadN X2.here hx rfl (hb hby d1_9) rfl ?_
    show Steps p.tables e below (T2.setTop (mkF m 10 #[.val (.ref a1), .val (.int (0 : Int32)), .val (.int p3)] [(.int p3), (.int (1 : Int32)), (.ref a1)])) _
    refine XS.bipush X2.here hx rfl (hb hby d1_10) ?_
    show Steps p.tables e below (T2.setTop (mkF m 12 #[.val (.ref a1), .val (.int (0 : Int32)), .val (.int p3)] [(.int (8 : Int32)), (.int p3), (.int (1 : Int32)), (.ref a1)])) _
    refine XS.iushr X2.here hx rfl (hb hby d1_12) rfl ?_
    show Steps p.tables e below (T2.setTop (mkF m 13 #[.val (.ref a1), .val (.int (0 : Int32)), .val (.int p3)] [(.int ((p3.toUInt32 >>> ((8 : Int32) &&& 31).toUInt32).toInt32)), (.int (1 : Int32)), (.ref a1)])) _
    refine XS.i2b X2.here hx rfl (hb hby d1_13) rfl ?_
    show Steps p.tables e below (T2.setTop (mkF m 14 #[.val (.ref a1), .val (.int (0 : Int32)), .val (.int p3)] [(.int (((p3.toUInt32 >>> ((8 : Int32) &&& 31).toUInt32).toInt32).toInt8.toInt32)), (.int (1 : Int32)), (.ref a1)])) _
    refine st4 _ ?_
    show Steps p.tables e below (T4.setTop (mkF m 15 #[.val (.ref a1), .val (.int (0 : Int32)), .val (.int p3)] [])) _
    refine XS.aloadN X4.here hx rfl (hb hby d1_15) rfl rfl ?_
    exact ktx
  obtain ⟨cl6, Ar6, q6, S6, M6, H6, G6⟩ := id V4
  have hin6 : ¬ ((2 : Int32) < 0 ∨ cl6.slots.size ≤ ((2 : Int32)).toNatClampNeg) := inb_of S6 ⟨by decide, by decide⟩
  obtain ⟨T7, h7, X7, e7, W7, st7⟩ := stB X4 hx hZ e4 Ar6 (j := (2 : Int32)) hin6 (g := (mkF m 24 #[.val (.ref a1), .val (.int (0 : Int32)), .val (.int p3)] [(.int (((p3.toUInt32 >>> ((16 : Int32) &&& 31).toUInt32).toInt32).toInt8.toInt32)), (.int (2 : Int32)), (.ref a1)])) rfl rfl (hb hby d1_24)
  have Z7 : n0 ≤ h7.size := Nat.le_trans Z4 (Nat.le_of_eq W7.size.symm)
  have K7 : Keep h0 h7 [a1] := K4.wr W7 (Or.inl (List.mem_of_getElem? (i := 0) rfl))
  have N7 := Fr.snoc X7 N4 g_a1
  have V7 : Arv Z h7 a1 kc .byte (8 : Int32) [(.int ((p3.toInt8.toInt32).toInt8.toInt32)), (.int ((((p3.toUInt32 >>> ((8 : Int32) &&& 31).toUInt32).toInt32).toInt8.toInt32).toInt8.toInt32)), (.int ((((p3.toUInt32 >>> ((16 : Int32) &&& 31).toUInt32).toInt32).toInt8.toInt32).toInt8.toInt32)), (.int yy3), (.int yy4), (.int yy5), (.int yy6), (.int yy7)] (.int (0 : Int32)) := Arv.set Ar6 q6 S6 M6 H6 G6 (fits_nar_byte _) W7 2 rfl (Nat.le_of_ble_eq_true rfl)
  have go8 : own_go p e below (s₁.setTop (entryFrame m #[(.ref a1), (.int (0 : Int32)), (.int p3)] 3)) (T7.setTop (mkF m 33 #[.val (.ref a1), .val (.int (0 : Int32)), .val (.int p3)] [(.int ((p3.toUInt32 >>> ((24 : Int32) &&& 31).toUInt32).toInt32)), (.int (3 : Int32)), (.ref a1)])) := by
    intro ttx ktx
    refine go5 ttx ?_
    show Steps p.tables e below (T4.setTop (mkF m 16 #[.val (.ref a1), .val (.int (0 : Int32)), .val (.int p3)] [(.ref a1)])) _
    refine XS.iloadN X4.here hx rfl (hb hby d1_16) rfl ?_
    show Steps p.tables e below (T4.setTop (mkF m 17 #[.val (.ref a1), .val (.int (0 : Int32)), .val (.int p3)] [(.int (0 : Int32)), (.ref a1)])) _
    refine XS.iconst X4.here hx rfl (hb hby d1_17) ?_
    show Steps p.tables e below (T4.setTop (mkF m 18 #[.val (.ref a1), .val (.int (0 : Int32)), .val (.int p3)] [(.int (2 : Int32)), (.int (0 : Int32)), (.ref a1)])) _
    refine XS.iadd X4.here hx rfl (hb hby d1_18) rfl ?_
    show Steps p.tables e below (T4.setTop (mkF m 19 #[.val (.ref a1), .val (.int (0 : Int32)), .val (.int p3)] [(.int (2 : Int32)), (.ref a1)])) _
    refine XS.iloadN X4.here hx rfl (hb hby d1_19) rfl ?_
    show Steps p.tables e below (T4.setTop (mkF m 20 #[.val (.ref a1), .val (.int (0 : Int32)), .val (.int p3)] [(.int p3), (.int (2 : Int32)), (.ref a1)])) _
    refine XS.bipush X4.here hx rfl (hb hby d1_20) ?_
    show Steps p.tables e below (T4.setTop (mkF m 22 #[.val (.ref a1), .val (.int (0 : Int32)), .val (.int p3)] [(.int (16 : Int32)), (.int p3), (.int (2 : Int32)), (.ref a1)])) _
    refine XS.iushr X4.here hx rfl (hb hby d1_22) rfl ?_
    show Steps p.tables e below (T4.setTop (mkF m 23 #[.val (.ref a1), .val (.int (0 : Int32)), .val (.int p3)] [(.int ((p3.toUInt32 >>> ((16 : Int32) &&& 31).toUInt32).toInt32)), (.int (2 : Int32)), (.ref a1)])) _
    refine XS.i2b X4.here hx rfl (hb hby d1_23) rfl ?_
    show Steps p.tables e below (T4.setTop (mkF m 24 #[.val (.ref a1), .val (.int (0 : Int32)), .val (.int p3)] [(.int (((p3.toUInt32 >>> ((16 : Int32) &&& 31).toUInt32).toInt32).toInt8.toInt32)), (.int (2 : Int32)), (.ref a1)])) _
    refine st7 _ ?_
    show Steps p.tables e below (T7.setTop (mkF m 25 #[.val (.ref a1), .val (.int (0 : Int32)), .val (.int p3)] [])) _
    refine XS.aloadN X7.here hx rfl (hb hby d1_25) rfl rfl ?_
    show Steps p.tables e below (T7.setTop (mkF m 26 #[.val (.ref a1), .val (.int (0 : Int32)), .val (.int p3)] [(.ref a1)])) _
    refine XS.iloadN X7.here hx rfl (hb hby d1_26) rfl ?_
    show Steps p.tables e below (T7.setTop (mkF m 27 #[.val (.ref a1), .val (.int (0 : Int32)), .val (.int p3)] [(.int (0 : Int32)), (.ref a1)])) _
    refine XS.iconst X7.here hx rfl (hb hby d1_27) ?_
    show Steps p.tables e below (T7.setTop (mkF m 28 #[.val (.ref a1), .val (.int (0 : Int32)), .val (.int p3)] [(.int (3 : Int32)), (.int (0 : Int32)), (.ref a1)])) _
    refine XS.iadd X7.here hx rfl (hb hby d1_28) rfl ?_
    show Steps p.tables e below (T7.setTop (mkF m 29 #[.val (.ref a1), .val (.int (0 : Int32)), .val (.int p3)] [(.int (3 : Int32)), (.ref a1)])) _
    refine XS.iloadN X7.here hx rfl (hb hby d1_29) rfl ?_
    show Steps p.tables e below (T7.setTop (mkF m 30 #[.val (.ref a1), .val (.int (0 : Int32)), .val (.int p3)] [(.int p3), (.int (3 : Int32)), (.ref a1)])) _
    refine XS.bipush X7.here hx rfl (hb hby d1_30) ?_
    show Steps p.tables e below (T7.setTop (mkF m 32 #[.val (.ref a1), .val (.int (0 : Int32)), .val (.int p3)] [(.int (24 : Int32)), (.int p3), (.int (3 : Int32)), (.ref a1)])) _
    refine XS.iushr X7.here hx rfl (hb hby d1_32) rfl ?_
    exact ktx
  obtain ⟨cl9, Ar9, q9, S9, M9, H9, G9⟩ := id V7
  have hin9 : ¬ ((3 : Int32) < 0 ∨ cl9.slots.size ≤ ((3 : Int32)).toNatClampNeg) := inb_of S9 ⟨by decide, by decide⟩
  obtain ⟨T10, h10, X10, e10, W10, st10⟩ := stB X7 hx hZ e7 Ar9 (j := (3 : Int32)) hin9 (g := (mkF m 34 #[.val (.ref a1), .val (.int (0 : Int32)), .val (.int p3)] [(.int (((p3.toUInt32 >>> ((24 : Int32) &&& 31).toUInt32).toInt32).toInt8.toInt32)), (.int (3 : Int32)), (.ref a1)])) rfl rfl (hb hby d1_34)
  have Z10 : n0 ≤ h10.size := Nat.le_trans Z7 (Nat.le_of_eq W10.size.symm)
  have K10 : Keep h0 h10 [a1] := K7.wr W10 (Or.inl (List.mem_of_getElem? (i := 0) rfl))
  have N10 := Fr.snoc X10 N7 g_a1
  have V10 : Arv Z h10 a1 kc .byte (8 : Int32) [(.int ((p3.toInt8.toInt32).toInt8.toInt32)), (.int ((((p3.toUInt32 >>> ((8 : Int32) &&& 31).toUInt32).toInt32).toInt8.toInt32).toInt8.toInt32)), (.int ((((p3.toUInt32 >>> ((16 : Int32) &&& 31).toUInt32).toInt32).toInt8.toInt32).toInt8.toInt32)), (.int ((((p3.toUInt32 >>> ((24 : Int32) &&& 31).toUInt32).toInt32).toInt8.toInt32).toInt8.toInt32)), (.int yy4), (.int yy5), (.int yy6), (.int yy7)] (.int (0 : Int32)) := Arv.set Ar9 q9 S9 M9 H9 G9 (fits_nar_byte _) W10 3 rfl (Nat.le_of_ble_eq_true rfl)
  have go11 : own_go p e below (s₁.setTop (entryFrame m #[(.ref a1), (.int (0 : Int32)), (.int p3)] 3)) (T10.setTop (mkF m 35 #[.val (.ref a1), .val (.int (0 : Int32)), .val (.int p3)] [])) := by
    intro ttx ktx
    refine go8 ttx ?_
    show Steps p.tables e below (T7.setTop (mkF m 33 #[.val (.ref a1), .val (.int (0 : Int32)), .val (.int p3)] [(.int ((p3.toUInt32 >>> ((24 : Int32) &&& 31).toUInt32).toInt32)), (.int (3 : Int32)), (.ref a1)])) _
    refine XS.i2b X7.here hx rfl (hb hby d1_33) rfl ?_
    show Steps p.tables e below (T7.setTop (mkF m 34 #[.val (.ref a1), .val (.int (0 : Int32)), .val (.int p3)] [(.int (((p3.toUInt32 >>> ((24 : Int32) &&& 31).toUInt32).toInt32).toInt8.toInt32)), (.int (3 : Int32)), (.ref a1)])) _
    refine st10 _ ?_
    exact ktx
  obtain ⟨fs, hr, hrun, hended, hW, hsame⟩ := X10.leave (v := none) (fun _ => rfl)
  refine ⟨_, _, go11 _ ?_, hrun, hended, _, _, rfl, ?_, ⟨_, rfl⟩, hW, hsame.mono (by decide) (by decide)⟩
  · exact X10.returnOut hx Bd.returns (hb hby d1_35) hr
  · show QPUT0 Z a1 p3 kc yy0 yy1 yy2 yy3 yy4 yy5 yy6 yy7 h0 n0 _ T10.heap _
    rw [e10]
    exact ⟨rfl, N10, K10, V10⟩
theorem ef_PUT4 (m : MethodId) (x0 : Addr) (x2 : Int32) : entryFrame m #[(.ref x0), (.int (4 : Int32)), (.int x2)] 3 = mkF m 0 #[.val (.ref x0), .val (.int (4 : Int32)), .val (.int x2)] [] := by first | (simp [entryFrame, mkF, argsToLocals, Value.category]; done) | rfl
def QPUT4 (Z : State) (a1 : Addr) (p3 : Int32) (kc : ClassId) (yy0 : Int32) (yy1 : Int32) (yy2 : Int32) (yy3 : Int32) (yy4 : Int32) (yy5 : Int32) (yy6 : Int32) (yy7 : Int32) (h0 : Heap) (n0 : Nat) (v : Option Value) (h : Heap) (L : List Loc) : Prop := v = none ∧ Fr n0 L ∧ Keep h0 h [a1] ∧ Arv Z h a1 kc .byte (8 : Int32) [(.int yy0), (.int yy1), (.int yy2), (.int yy3), (.int ((p3.toInt8.toInt32).toInt8.toInt32)), (.int ((((p3.toUInt32 >>> ((8 : Int32) &&& 31).toUInt32).toInt32).toInt8.toInt32).toInt8.toInt32)), (.int ((((p3.toUInt32 >>> ((16 : Int32) &&& 31).toUInt32).toInt32).toInt8.toInt32).toInt8.toInt32)), (.int ((((p3.toUInt32 >>> ((24 : Int32) &&& 31).toUInt32).toInt32).toInt8.toInt32).toInt8.toInt32))] (.int (0 : Int32))
set_option maxRecDepth 65536 in
set_option maxHeartbeats 40000000 in
theorem rmPUT4 (l : Launch) (Z : State) (a0 : Array Value) (hw : ∀ d ∈ tables_1, d.before a0 Z = true) (ws : List Jvm.Cond) (a1 : Addr) (p3 : Int32) (kc : ClassId) (yy0 : Int32) (yy1 : Int32) (yy2 : Int32) (yy3 : Int32) (yy4 : Int32) (yy5 : Int32) (yy6 : Int32) (yy7 : Int32) (h0 : Heap) (n0 : Nat) (Z0 : n0 ≤ h0.size) (V_a : Arv Z h0 a1 kc .byte (8 : Int32) [(.int yy0), (.int yy1), (.int yy2), (.int yy3), (.int yy4), (.int yy5), (.int yy6), (.int yy7)] (.int (0 : Int32))) (g_a1 : n0 ≤ a1) :
    MetFree l (⟨"io/subjectwire/auth/Crc16OfPinLaw", "put", "([BII)V"⟩ : MethodName) (head1 (Jvm.Cond.code (⟨"io/subjectwire/auth/Crc16OfPinLaw", "put", "([BII)V"⟩ : MethodName) method_2_code 3 none :: ws) ({ frames := 0, cells := 0, slots := 0, locals := 0 } : Room)) (fun aax UU => aax = #[(.ref a1), (.int (4 : Int32)), (.int p3)] ∧ Z.Warmed39 UU.vm ∧ UU.heap = h0) (fun _ _ _ _ _ => True) (fun _ UU oux UU' => ∃ rvx Lrx, oux = .returned rvx ∧ QPUT4 Z a1 p3 kc yy0 yy1 yy2 yy3 yy4 yy5 yy6 yy7 h0 n0 rvx UU'.heap Lrx ∧ FrameEnd UU oux UU' Lrx ({ frames := 0, cells := 0, slots := 0, locals := 0 } : Room).cells ({ frames := 0, cells := 0, slots := 0, locals := 0 } : Room).slots) := by
  refine MetFree.of_bodySF (plainFor_of_name own_pn_io_subjectwire_auth_Crc16OfPinLaw) hisR ?_
  intro p e s m args below meth c s₁ Bd hml0 hP hK
  obtain ⟨rfl, hZ, hh⟩ := hP
  have hx := Bd.exec
  have hby := Bd.bytes
  have hml : c.maxLocals = 3 := hml0
  have hown : s.vm.findClass "io/subjectwire/auth/Crc16OfPinLaw" = some m.cls := findClass_of_methodNamed Bd.named
  have hnm := (name_of_methodNamed Bd.named Bd.method).1
  have X0 : Stand p l e ({ frames := 0, cells := 0, slots := 0, locals := 0 } : Room) s m #[(.ref a1), (.int (4 : Int32)), (.int p3)] below meth c s₁ [] 0 0 := Stand.of_body Bd
  have e0 : s₁.heap = h0 := by rw [← hh, Bd.state]; rfl
  have N0 := Fr.nil n0
  have p0 : own_go p e below (s₁.setTop (entryFrame m #[(.ref a1), (.int (4 : Int32)), (.int p3)] 3)) (s₁.setTop (mkF m 0 #[.val (.ref a1), .val (.int (4 : Int32)), .val (.int p3)] [])) := fun ttx ktx => castTop (ef_PUT4 m a1 p3) ktx
  obtain ⟨cl1, Ar1, q1, S1, M1, H1, G1⟩ := id V_a
  have hin1 : ¬ ((4 : Int32) < 0 ∨ cl1.slots.size ≤ ((4 : Int32)).toNatClampNeg) := inb_of S1 ⟨by decide, by decide⟩
  obtain ⟨T2, h2, X2, e2, W2, st2⟩ := stB X0 hx hZ e0 Ar1 (j := (4 : Int32)) hin1 (g := (mkF m 4 #[.val (.ref a1), .val (.int (4 : Int32)), .val (.int p3)] [(.int (p3.toInt8.toInt32)), (.int (4 : Int32)), (.ref a1)])) rfl rfl (hb hby d1_4)
  have Z2 : n0 ≤ h2.size := Nat.le_trans Z0 (Nat.le_of_eq W2.size.symm)
  have K2 : Keep h0 h2 [a1] := (Keep.refl h0 [a1]).wr W2 (Or.inl (List.mem_of_getElem? (i := 0) rfl))
  have N2 := Fr.snoc X2 N0 g_a1
  have V2 : Arv Z h2 a1 kc .byte (8 : Int32) [(.int yy0), (.int yy1), (.int yy2), (.int yy3), (.int ((p3.toInt8.toInt32).toInt8.toInt32)), (.int yy5), (.int yy6), (.int yy7)] (.int (0 : Int32)) := Arv.set Ar1 q1 S1 M1 H1 G1 (fits_nar_byte _) W2 4 rfl (Nat.le_of_ble_eq_true rfl)
  obtain ⟨cl3, Ar3, q3, S3, M3, H3, G3⟩ := id V2
  have hin3 : ¬ ((5 : Int32) < 0 ∨ cl3.slots.size ≤ ((5 : Int32)).toNatClampNeg) := inb_of S3 ⟨by decide, by decide⟩
  obtain ⟨T4, h4, X4, e4, W4, st4⟩ := stB X2 hx hZ e2 Ar3 (j := (5 : Int32)) hin3 (g := (mkF m 14 #[.val (.ref a1), .val (.int (4 : Int32)), .val (.int p3)] [(.int (((p3.toUInt32 >>> ((8 : Int32) &&& 31).toUInt32).toInt32).toInt8.toInt32)), (.int (5 : Int32)), (.ref a1)])) rfl rfl (hb hby d1_14)
  have Z4 : n0 ≤ h4.size := Nat.le_trans Z2 (Nat.le_of_eq W4.size.symm)
  have K4 : Keep h0 h4 [a1] := K2.wr W4 (Or.inl (List.mem_of_getElem? (i := 0) rfl))
  have N4 := Fr.snoc X4 N2 g_a1
  have V4 : Arv Z h4 a1 kc .byte (8 : Int32) [(.int yy0), (.int yy1), (.int yy2), (.int yy3), (.int ((p3.toInt8.toInt32).toInt8.toInt32)), (.int ((((p3.toUInt32 >>> ((8 : Int32) &&& 31).toUInt32).toInt32).toInt8.toInt32).toInt8.toInt32)), (.int yy6), (.int yy7)] (.int (0 : Int32)) := Arv.set Ar3 q3 S3 M3 H3 G3 (fits_nar_byte _) W4 5 rfl (Nat.le_of_ble_eq_true rfl)
  have go5 : own_go p e below (s₁.setTop (entryFrame m #[(.ref a1), (.int (4 : Int32)), (.int p3)] 3)) (T4.setTop (mkF m 16 #[.val (.ref a1), .val (.int (4 : Int32)), .val (.int p3)] [(.ref a1)])) := by
    intro ttx ktx
    refine p0 ttx ?_
    show Steps p.tables e below (s₁.setTop (mkF m 0 #[.val (.ref a1), .val (.int (4 : Int32)), .val (.int p3)] [])) _
    refine XS.aloadN X0.here hx rfl (hb hby d1_0) rfl rfl ?_
    show Steps p.tables e below (s₁.setTop (mkF m 1 #[.val (.ref a1), .val (.int (4 : Int32)), .val (.int p3)] [(.ref a1)])) _
    refine XS.iloadN X0.here hx rfl (hb hby d1_1) rfl ?_
    show Steps p.tables e below (s₁.setTop (mkF m 2 #[.val (.ref a1), .val (.int (4 : Int32)), .val (.int p3)] [(.int (4 : Int32)), (.ref a1)])) _
    refine XS.iloadN X0.here hx rfl (hb hby d1_2) rfl ?_
    show Steps p.tables e below (s₁.setTop (mkF m 3 #[.val (.ref a1), .val (.int (4 : Int32)), .val (.int p3)] [(.int p3), (.int (4 : Int32)), (.ref a1)])) _
    refine XS.i2b X0.here hx rfl (hb hby d1_3) rfl ?_
    show Steps p.tables e below (s₁.setTop (mkF m 4 #[.val (.ref a1), .val (.int (4 : Int32)), .val (.int p3)] [(.int (p3.toInt8.toInt32)), (.int (4 : Int32)), (.ref a1)])) _
    refine st2 _ ?_
    show Steps p.tables e below (T2.setTop (mkF m 5 #[.val (.ref a1), .val (.int (4 : Int32)), .val (.int p3)] [])) _
    refine XS.aloadN X2.here hx rfl (hb hby d1_5) rfl rfl ?_
    show Steps p.tables e below (T2.setTop (mkF m 6 #[.val (.ref a1), .val (.int (4 : Int32)), .val (.int p3)] [(.ref a1)])) _
    refine XS.iloadN X2.here hx rfl (hb hby d1_6) rfl ?_
    show Steps p.tables e below (T2.setTop (mkF m 7 #[.val (.ref a1), .val (.int (4 : Int32)), .val (.int p3)] [(.int (4 : Int32)), (.ref a1)])) _
    refine XS.iconst X2.here hx rfl (hb hby d1_7) ?_
    show Steps p.tables e below (T2.setTop (mkF m 8 #[.val (.ref a1), .val (.int (4 : Int32)), .val (.int p3)] [(.int (1 : Int32)), (.int (4 : Int32)), (.ref a1)])) _
    refine XS.iadd X2.here hx rfl (hb hby d1_8) rfl ?_
    show Steps p.tables e below (T2.setTop (mkF m 9 #[.val (.ref a1), .val (.int (4 : Int32)), .val (.int p3)] [(.int (5 : Int32)), (.ref a1)])) _
    refine XS.iloadN X2.here hx rfl (hb hby d1_9) rfl ?_
    show Steps p.tables e below (T2.setTop (mkF m 10 #[.val (.ref a1), .val (.int (4 : Int32)), .val (.int p3)] [(.int p3), (.int (5 : Int32)), (.ref a1)])) _
    refine XS.bipush X2.here hx rfl (hb hby d1_10) ?_
    show Steps p.tables e below (T2.setTop (mkF m 12 #[.val (.ref a1), .val (.int (4 : Int32)), .val (.int p3)] [(.int (8 : Int32)), (.int p3), (.int (5 : Int32)), (.ref a1)])) _
    refine XS.iushr X2.here hx rfl (hb hby d1_12) rfl ?_
    show Steps p.tables e below (T2.setTop (mkF m 13 #[.val (.ref a1), .val (.int (4 : Int32)), .val (.int p3)] [(.int ((p3.toUInt32 >>> ((8 : Int32) &&& 31).toUInt32).toInt32)), (.int (5 : Int32)), (.ref a1)])) _
    refine XS.i2b X2.here hx rfl (hb hby d1_13) rfl ?_
    show Steps p.tables e below (T2.setTop (mkF m 14 #[.val (.ref a1), .val (.int (4 : Int32)), .val (.int p3)] [(.int (((p3.toUInt32 >>> ((8 : Int32) &&& 31).toUInt32).toInt32).toInt8.toInt32)), (.int (5 : Int32)), (.ref a1)])) _
    refine st4 _ ?_
    show Steps p.tables e below (T4.setTop (mkF m 15 #[.val (.ref a1), .val (.int (4 : Int32)), .val (.int p3)] [])) _
    refine XS.aloadN X4.here hx rfl (hb hby d1_15) rfl rfl ?_
    exact ktx
  obtain ⟨cl6, Ar6, q6, S6, M6, H6, G6⟩ := id V4
  have hin6 : ¬ ((6 : Int32) < 0 ∨ cl6.slots.size ≤ ((6 : Int32)).toNatClampNeg) := inb_of S6 ⟨by decide, by decide⟩
  obtain ⟨T7, h7, X7, e7, W7, st7⟩ := stB X4 hx hZ e4 Ar6 (j := (6 : Int32)) hin6 (g := (mkF m 24 #[.val (.ref a1), .val (.int (4 : Int32)), .val (.int p3)] [(.int (((p3.toUInt32 >>> ((16 : Int32) &&& 31).toUInt32).toInt32).toInt8.toInt32)), (.int (6 : Int32)), (.ref a1)])) rfl rfl (hb hby d1_24)
  have Z7 : n0 ≤ h7.size := Nat.le_trans Z4 (Nat.le_of_eq W7.size.symm)
  have K7 : Keep h0 h7 [a1] := K4.wr W7 (Or.inl (List.mem_of_getElem? (i := 0) rfl))
  have N7 := Fr.snoc X7 N4 g_a1
  have V7 : Arv Z h7 a1 kc .byte (8 : Int32) [(.int yy0), (.int yy1), (.int yy2), (.int yy3), (.int ((p3.toInt8.toInt32).toInt8.toInt32)), (.int ((((p3.toUInt32 >>> ((8 : Int32) &&& 31).toUInt32).toInt32).toInt8.toInt32).toInt8.toInt32)), (.int ((((p3.toUInt32 >>> ((16 : Int32) &&& 31).toUInt32).toInt32).toInt8.toInt32).toInt8.toInt32)), (.int yy7)] (.int (0 : Int32)) := Arv.set Ar6 q6 S6 M6 H6 G6 (fits_nar_byte _) W7 6 rfl (Nat.le_of_ble_eq_true rfl)
  have go8 : own_go p e below (s₁.setTop (entryFrame m #[(.ref a1), (.int (4 : Int32)), (.int p3)] 3)) (T7.setTop (mkF m 33 #[.val (.ref a1), .val (.int (4 : Int32)), .val (.int p3)] [(.int ((p3.toUInt32 >>> ((24 : Int32) &&& 31).toUInt32).toInt32)), (.int (7 : Int32)), (.ref a1)])) := by
    intro ttx ktx
    refine go5 ttx ?_
    show Steps p.tables e below (T4.setTop (mkF m 16 #[.val (.ref a1), .val (.int (4 : Int32)), .val (.int p3)] [(.ref a1)])) _
    refine XS.iloadN X4.here hx rfl (hb hby d1_16) rfl ?_
    show Steps p.tables e below (T4.setTop (mkF m 17 #[.val (.ref a1), .val (.int (4 : Int32)), .val (.int p3)] [(.int (4 : Int32)), (.ref a1)])) _
    refine XS.iconst X4.here hx rfl (hb hby d1_17) ?_
    show Steps p.tables e below (T4.setTop (mkF m 18 #[.val (.ref a1), .val (.int (4 : Int32)), .val (.int p3)] [(.int (2 : Int32)), (.int (4 : Int32)), (.ref a1)])) _
    refine XS.iadd X4.here hx rfl (hb hby d1_18) rfl ?_
    show Steps p.tables e below (T4.setTop (mkF m 19 #[.val (.ref a1), .val (.int (4 : Int32)), .val (.int p3)] [(.int (6 : Int32)), (.ref a1)])) _
    refine XS.iloadN X4.here hx rfl (hb hby d1_19) rfl ?_
    show Steps p.tables e below (T4.setTop (mkF m 20 #[.val (.ref a1), .val (.int (4 : Int32)), .val (.int p3)] [(.int p3), (.int (6 : Int32)), (.ref a1)])) _
    refine XS.bipush X4.here hx rfl (hb hby d1_20) ?_
    show Steps p.tables e below (T4.setTop (mkF m 22 #[.val (.ref a1), .val (.int (4 : Int32)), .val (.int p3)] [(.int (16 : Int32)), (.int p3), (.int (6 : Int32)), (.ref a1)])) _
    refine XS.iushr X4.here hx rfl (hb hby d1_22) rfl ?_
    show Steps p.tables e below (T4.setTop (mkF m 23 #[.val (.ref a1), .val (.int (4 : Int32)), .val (.int p3)] [(.int ((p3.toUInt32 >>> ((16 : Int32) &&& 31).toUInt32).toInt32)), (.int (6 : Int32)), (.ref a1)])) _
    refine XS.i2b X4.here hx rfl (hb hby d1_23) rfl ?_
    show Steps p.tables e below (T4.setTop (mkF m 24 #[.val (.ref a1), .val (.int (4 : Int32)), .val (.int p3)] [(.int (((p3.toUInt32 >>> ((16 : Int32) &&& 31).toUInt32).toInt32).toInt8.toInt32)), (.int (6 : Int32)), (.ref a1)])) _
    refine st7 _ ?_
    show Steps p.tables e below (T7.setTop (mkF m 25 #[.val (.ref a1), .val (.int (4 : Int32)), .val (.int p3)] [])) _
    refine XS.aloadN X7.here hx rfl (hb hby d1_25) rfl rfl ?_
    show Steps p.tables e below (T7.setTop (mkF m 26 #[.val (.ref a1), .val (.int (4 : Int32)), .val (.int p3)] [(.ref a1)])) _
    refine XS.iloadN X7.here hx rfl (hb hby d1_26) rfl ?_
    show Steps p.tables e below (T7.setTop (mkF m 27 #[.val (.ref a1), .val (.int (4 : Int32)), .val (.int p3)] [(.int (4 : Int32)), (.ref a1)])) _
    refine XS.iconst X7.here hx rfl (hb hby d1_27) ?_
    show Steps p.tables e below (T7.setTop (mkF m 28 #[.val (.ref a1), .val (.int (4 : Int32)), .val (.int p3)] [(.int (3 : Int32)), (.int (4 : Int32)), (.ref a1)])) _
    refine XS.iadd X7.here hx rfl (hb hby d1_28) rfl ?_
    show Steps p.tables e below (T7.setTop (mkF m 29 #[.val (.ref a1), .val (.int (4 : Int32)), .val (.int p3)] [(.int (7 : Int32)), (.ref a1)])) _
    refine XS.iloadN X7.here hx rfl (hb hby d1_29) rfl ?_
    show Steps p.tables e below (T7.setTop (mkF m 30 #[.val (.ref a1), .val (.int (4 : Int32)), .val (.int p3)] [(.int p3), (.int (7 : Int32)), (.ref a1)])) _
    refine XS.bipush X7.here hx rfl (hb hby d1_30) ?_
    show Steps p.tables e below (T7.setTop (mkF m 32 #[.val (.ref a1), .val (.int (4 : Int32)), .val (.int p3)] [(.int (24 : Int32)), (.int p3), (.int (7 : Int32)), (.ref a1)])) _
    refine XS.iushr X7.here hx rfl (hb hby d1_32) rfl ?_
    exact ktx
  obtain ⟨cl9, Ar9, q9, S9, M9, H9, G9⟩ := id V7
  have hin9 : ¬ ((7 : Int32) < 0 ∨ cl9.slots.size ≤ ((7 : Int32)).toNatClampNeg) := inb_of S9 ⟨by decide, by decide⟩
  obtain ⟨T10, h10, X10, e10, W10, st10⟩ := stB X7 hx hZ e7 Ar9 (j := (7 : Int32)) hin9 (g := (mkF m 34 #[.val (.ref a1), .val (.int (4 : Int32)), .val (.int p3)] [(.int (((p3.toUInt32 >>> ((24 : Int32) &&& 31).toUInt32).toInt32).toInt8.toInt32)), (.int (7 : Int32)), (.ref a1)])) rfl rfl (hb hby d1_34)
  have Z10 : n0 ≤ h10.size := Nat.le_trans Z7 (Nat.le_of_eq W10.size.symm)
  have K10 : Keep h0 h10 [a1] := K7.wr W10 (Or.inl (List.mem_of_getElem? (i := 0) rfl))
  have N10 := Fr.snoc X10 N7 g_a1
  have V10 : Arv Z h10 a1 kc .byte (8 : Int32) [(.int yy0), (.int yy1), (.int yy2), (.int yy3), (.int ((p3.toInt8.toInt32).toInt8.toInt32)), (.int ((((p3.toUInt32 >>> ((8 : Int32) &&& 31).toUInt32).toInt32).toInt8.toInt32).toInt8.toInt32)), (.int ((((p3.toUInt32 >>> ((16 : Int32) &&& 31).toUInt32).toInt32).toInt8.toInt32).toInt8.toInt32)), (.int ((((p3.toUInt32 >>> ((24 : Int32) &&& 31).toUInt32).toInt32).toInt8.toInt32).toInt8.toInt32))] (.int (0 : Int32)) := Arv.set Ar9 q9 S9 M9 H9 G9 (fits_nar_byte _) W10 7 rfl (Nat.le_of_ble_eq_true rfl)
  have go11 : own_go p e below (s₁.setTop (entryFrame m #[(.ref a1), (.int (4 : Int32)), (.int p3)] 3)) (T10.setTop (mkF m 35 #[.val (.ref a1), .val (.int (4 : Int32)), .val (.int p3)] [])) := by
    intro ttx ktx
    refine go8 ttx ?_
    show Steps p.tables e below (T7.setTop (mkF m 33 #[.val (.ref a1), .val (.int (4 : Int32)), .val (.int p3)] [(.int ((p3.toUInt32 >>> ((24 : Int32) &&& 31).toUInt32).toInt32)), (.int (7 : Int32)), (.ref a1)])) _
    refine XS.i2b X7.here hx rfl (hb hby d1_33) rfl ?_
    show Steps p.tables e below (T7.setTop (mkF m 34 #[.val (.ref a1), .val (.int (4 : Int32)), .val (.int p3)] [(.int (((p3.toUInt32 >>> ((24 : Int32) &&& 31).toUInt32).toInt32).toInt8.toInt32)), (.int (7 : Int32)), (.ref a1)])) _
    refine st10 _ ?_
    exact ktx
  obtain ⟨fs, hr, hrun, hended, hW, hsame⟩ := X10.leave (v := none) (fun _ => rfl)
  refine ⟨_, _, go11 _ ?_, hrun, hended, _, _, rfl, ?_, ⟨_, rfl⟩, hW, hsame.mono (by decide) (by decide)⟩
  · exact X10.returnOut hx Bd.returns (hb hby d1_35) hr
  · show QPUT4 Z a1 p3 kc yy0 yy1 yy2 yy3 yy4 yy5 yy6 yy7 h0 n0 _ T10.heap _
    rw [e10]
    exact ⟨rfl, N10, K10, V10⟩
theorem d3_0 : decode method_3_code 0 = .ok (.iload_n 0, 1) := by decide +kernel
theorem d3_1 : decode method_3_code 1 = .ok (.ifCond .eq 7, 3) := by decide +kernel
theorem d3_8 : decode method_3_code 8 = .ok (.iload_n 2, 1) := by decide +kernel
theorem d3_4 : decode method_3_code 4 = .ok (.iload_n 1, 1) := by decide +kernel
theorem d3_5 : decode method_3_code 5 = .ok (.goto 4, 3) := by decide +kernel
theorem d3_9 : decode method_3_code 9 = .ok (.ireturn, 1) := by decide +kernel
theorem ef_3 (m : MethodId) (x0 : Int32) (x1 : Int32) (x2 : Int32) : entryFrame m #[(.int x0), (.int x1), (.int x2)] 3 = mkF m 0 #[.val (.int x0), .val (.int x1), .val (.int x2)] [] := by first | (simp [entryFrame, mkF, argsToLocals, Value.category]; done) | rfl
def Q3 (Z : State) (p1 : Int32) (p2 : Int32) (p3 : Int32) (h0 : Heap) (n0 : Nat) (v : Option Value) (h : Heap) (L : List Loc) : Prop := v = some (.int (nar .byte (if p1 = (0 : Int32) then p3 else p2))) ∧ Fr n0 L ∧ h = h0
set_option maxRecDepth 65536 in
set_option maxHeartbeats 40000000 in
theorem rm3 (l : Launch) (Z : State) (a0 : Array Value) (hw : ∀ d ∈ tables_1, d.before a0 Z = true) (ws : List Jvm.Cond) (p1 : Int32) (p2 : Int32) (p3 : Int32) (h0 : Heap) (n0 : Nat) (Z0 : n0 ≤ h0.size) :
    MetFree l (⟨"io/subjectwire/auth/Crc16OfPinLaw", "pick", "(ZBB)B"⟩ : MethodName) (head1 (Jvm.Cond.code (⟨"io/subjectwire/auth/Crc16OfPinLaw", "pick", "(ZBB)B"⟩ : MethodName) method_3_code 3 (some .byte) :: ws) ({ frames := 0, cells := 0, slots := 0, locals := 0 } : Room)) (fun aax UU => aax = #[(.int p1), (.int p2), (.int p3)] ∧ Z.Warmed39 UU.vm ∧ UU.heap = h0) (fun _ _ _ _ _ => True) (fun _ UU oux UU' => ∃ rvx Lrx, oux = .returned rvx ∧ Q3 Z p1 p2 p3 h0 n0 rvx UU'.heap Lrx ∧ FrameEnd UU oux UU' Lrx ({ frames := 0, cells := 0, slots := 0, locals := 0 } : Room).cells ({ frames := 0, cells := 0, slots := 0, locals := 0 } : Room).slots) := by
  refine MetFree.of_bodySF (plainFor_of_name own_pn_io_subjectwire_auth_Crc16OfPinLaw) hisR ?_
  intro p e s m args below meth c s₁ Bd hml0 hP hK
  obtain ⟨rfl, hZ, hh⟩ := hP
  have hx := Bd.exec
  have hby := Bd.bytes
  have hml : c.maxLocals = 3 := hml0
  have hown : s.vm.findClass "io/subjectwire/auth/Crc16OfPinLaw" = some m.cls := findClass_of_methodNamed Bd.named
  have hnm := (name_of_methodNamed Bd.named Bd.method).1
  have X0 : Stand p l e ({ frames := 0, cells := 0, slots := 0, locals := 0 } : Room) s m #[(.int p1), (.int p2), (.int p3)] below meth c s₁ [] 0 0 := Stand.of_body Bd
  have e0 : s₁.heap = h0 := by rw [← hh, Bd.state]; rfl
  have N0 := Fr.nil n0
  have p0 : own_go p e below (s₁.setTop (entryFrame m #[(.int p1), (.int p2), (.int p3)] 3)) (s₁.setTop (mkF m 0 #[.val (.int p1), .val (.int p2), .val (.int p3)] [])) := fun ttx ktx => castTop (ef_3 m p1 p2 p3) ktx
  have go1 : own_go p e below (s₁.setTop (entryFrame m #[(.int p1), (.int p2), (.int p3)] 3)) (s₁.setTop (mkF m 1 #[.val (.int p1), .val (.int p2), .val (.int p3)] [(.int p1)])) := by
    intro ttx ktx
    refine p0 ttx ?_
    show Steps p.tables e below (s₁.setTop (mkF m 0 #[.val (.int p1), .val (.int p2), .val (.int p3)] [])) _
    refine XS.iloadN X0.here hx rfl (hb hby d3_0) rfl ?_
    exact ktx
  obtain ⟨v5, hv_v5, go6⟩ : ∃ (v5 : Int32), v5 = (if p1 = (0 : Int32) then p3 else p2) ∧ own_go p e below (s₁.setTop (entryFrame m #[(.int p1), (.int p2), (.int p3)] 3)) (s₁.setTop (mkF m 9 #[.val (.int p1), .val (.int p2), .val (.int p3)] [(.int v5)])) := by
    by_cases hc2_1 : p1 = (0 : Int32)
    · have go3 : own_go p e below (s₁.setTop (entryFrame m #[(.int p1), (.int p2), (.int p3)] 3)) (s₁.setTop (mkF m 9 #[.val (.int p1), .val (.int p2), .val (.int p3)] [(.int p3)])) := by
        intro ttx ktx
        refine go1 ttx ?_
        show Steps p.tables e below (s₁.setTop (mkF m 1 #[.val (.int p1), .val (.int p2), .val (.int p3)] [(.int p1)])) _
        refine XS.ifYes X0.here hx rfl (pc0 := 1) (pc' := 8) rfl (hb hby d3_1) rfl ((if0 _ _).trans (teq hc2_1).1) (by decide) (by decide) ?_
        show Steps p.tables e below (s₁.setTop (mkF m 8 #[.val (.int p1), .val (.int p2), .val (.int p3)] [])) _
        refine XS.iloadN X0.here hx rfl (hb hby d3_8) rfl ?_
        exact ktx
      exact ⟨_, (if_pos hc2_1).symm, go3⟩
    · have go4 : own_go p e below (s₁.setTop (entryFrame m #[(.int p1), (.int p2), (.int p3)] 3)) (s₁.setTop (mkF m 9 #[.val (.int p1), .val (.int p2), .val (.int p3)] [(.int p2)])) := by
        intro ttx ktx
        refine go1 ttx ?_
        show Steps p.tables e below (s₁.setTop (mkF m 1 #[.val (.int p1), .val (.int p2), .val (.int p3)] [(.int p1)])) _
        refine XS.ifNo X0.here hx rfl (hb hby d3_1) rfl ((if0 _ _).trans (feq hc2_1).1) ?_
        show Steps p.tables e below (s₁.setTop (mkF m 4 #[.val (.int p1), .val (.int p2), .val (.int p3)] [])) _
        refine XS.iloadN X0.here hx rfl (hb hby d3_4) rfl ?_
        show Steps p.tables e below (s₁.setTop (mkF m 5 #[.val (.int p1), .val (.int p2), .val (.int p3)] [(.int p2)])) _
        refine XS.goto X0.here hx rfl (pc0 := 5) (pc' := 9) rfl (hb hby d3_5) (by decide) (by decide) ?_
        exact ktx
      exact ⟨_, (if_neg hc2_1).symm, go4⟩
  obtain ⟨fs, hr, hrun, hended, hW, hsame⟩ := X0.leave (v := some (.int (nar .byte v5))) (fun h => by rw [Bd.returns] at h; cases h)
  refine ⟨_, _, go6 _ ?_, hrun, hended, _, _, rfl, ?_, ⟨_, rfl⟩, hW, hsame.mono (by decide) (by decide)⟩
  · exact retN X0 hx (t := .byte) Bd.returns (by simp) (hb hby d3_9) hr
  · show Q3 Z p1 p2 p3 h0 n0 _ s₁.heap _
    rw [e0]
    exact ⟨by rw [hv_v5], N0, rfl⟩
def own_b (c : Int32) (i : Nat) : Bool := c.toBitVec.getLsbD i
theorem own_bext {a b : Int32} (h : ∀ i, i < 32 → own_b a i = own_b b i) : a = b := Int32.toBitVec_inj.mp (BitVec.eq_of_getLsbD_eq h)
theorem own_band (a b : Int32) (i : Nat) : own_b (a &&& b) i = (own_b a i && own_b b i) := by simp [own_b]
theorem own_bxor (a b : Int32) (i : Nat) : own_b (a ^^^ b) i = (own_b a i ^^ own_b b i) := by simp [own_b]
theorem own_b0 (i : Nat) : own_b 0 i = false := by simp [own_b]
theorem own_top : ∀ i, i < 32 → own_b 32768 i = decide (i = 15) := by decide
theorem own_m16 : ∀ i, i < 32 → own_b 65535 i = decide (i < 16) := by decide
theorem own_m8 : ∀ i, i < 32 → own_b 255 i = decide (i < 8) := by decide
theorem own_bsh1 (c : Int32) (i : Nat) (h : i < 32) : own_b (c <<< ((1 : Int32) &&& 31)) i = (decide (1 ≤ i) && own_b c (i - 1)) := by
  have e : (c <<< ((1 : Int32) &&& 31)).toBitVec = c.toBitVec <<< 1 := rfl
  simp only [own_b, e, BitVec.getLsbD_shiftLeft]
  by_cases q : i < 1 <;> simp [q, h] <;> omega
theorem own_bsh8 (c : Int32) (i : Nat) (h : i < 32) : own_b (c <<< ((8 : Int32) &&& 31)) i = (decide (8 ≤ i) && own_b c (i - 8)) := by
  have e : (c <<< ((8 : Int32) &&& 31)).toBitVec = c.toBitVec <<< 8 := rfl
  simp only [own_b, e, BitVec.getLsbD_shiftLeft]
  by_cases q : i < 8 <;> simp [q, h] <;> omega
theorem own_cond (c : Int32) : (c &&& (32768 : Int32)) = (0 : Int32) ↔ own_b c 15 = false := by
  constructor
  · intro h
    have q := congrArg (fun z => own_b z 15) h
    simp only [own_band, own_b0, own_top 15 (by decide)] at q
    simpa using q
  · intro h
    refine own_bext fun i hi => ?_
    rw [own_band, own_b0, own_top i hi]
    by_cases e : i = 15
    · subst e; simp [h]
    · simp [e]
theorem own_bits (c : Int32) (i : Nat) (h : i < 16) : own_b (own_bit c) i = ((decide (1 ≤ i) && own_b c (i - 1)) ^^ (own_b c 15 && own_b 4129 i)) := by
  unfold own_bit
  by_cases q : own_b c 15 = false
  · rw [if_pos ((own_cond c).mpr q), own_bsh1 c i (by omega), q]; simp
  · rw [if_neg (fun z => q ((own_cond c).mp z)), own_bxor, own_bsh1 c i (by omega)]
    have q' : own_b c 15 = true := by simpa using q
    rw [q']; simp
/-- the low sixteen bits of c are those of a and b, added -/
def own_x3 (a b c : Int32) : Prop := ∀ i, i < 16 → own_b c i = (own_b a i ^^ own_b b i)
theorem own_x3_bit {a b c : Int32} (h : own_x3 a b c) : own_x3 (own_bit a) (own_bit b) (own_bit c) := fun i hi => by
  rw [own_bits a i hi, own_bits b i hi, own_bits c i hi, h 15 (by decide)]
  by_cases q : 1 ≤ i
  · rw [h (i - 1) (by omega)]
    cases own_b a (i - 1) <;> cases own_b b (i - 1) <;> cases own_b a 15 <;> cases own_b b 15 <;> cases own_b 4129 i <;> simp [q]
  · cases own_b a 15 <;> cases own_b b 15 <;> cases own_b 4129 i <;> simp [q]
/-- g's low byte is the sum of b's and e's -/
def own_x8 (b e g : Int32) : Prop := ∀ i, i < 8 → own_b g i = (own_b b i ^^ own_b e i)
theorem own_x3_in {a b c x y z : Int32} (h : own_x3 a b c) (q : own_x8 x y z) : own_x3 (a ^^^ ((x &&& (255 : Int32)) <<< ((8 : Int32) &&& 31))) (b ^^^ ((y &&& (255 : Int32)) <<< ((8 : Int32) &&& 31))) (c ^^^ ((z &&& (255 : Int32)) <<< ((8 : Int32) &&& 31))) := fun i hi => by
  simp only [own_bxor, h i hi]
  rw [own_bsh8 _ i (by omega), own_bsh8 _ i (by omega), own_bsh8 _ i (by omega)]
  by_cases r : 8 ≤ i
  · have r8 : i - 8 < 8 := by omega
    simp only [own_band, own_m8 (i - 8) (by omega), q (i - 8) r8, r, r8]
    cases own_b a i <;> cases own_b b i <;> cases own_b x (i - 8) <;> cases own_b y (i - 8) <;> rfl
  · simp [r]
theorem own_x3_byte {a b c x y z : Int32} (h : own_x3 a b c) (q : own_x8 x y z) : own_x3 (own_byte a x) (own_byte b y) (own_byte c z) :=
  own_x3_bit (own_x3_bit (own_x3_bit (own_x3_bit (own_x3_bit (own_x3_bit (own_x3_bit (own_x3_bit (own_x3_in h q))))))))
theorem own_x3_run (as bs cs : List Int32) : ∀ (k i : Nat) (a b c : Int32), (∀ j, i ≤ j → j < i + k → own_x8 (as.getD j 0) (bs.getD j 0) (cs.getD j 0)) → own_x3 a b c → own_x3 (own_run as i k a) (own_run bs i k b) (own_run cs i k c)
  | 0, _, _, _, _, _, h => h
  | k + 1, i, a, b, c, q, h => own_x3_run as bs cs k (i + 1) _ _ _ (fun j h1 h2 => q j (by omega) (by omega)) (own_x3_byte h (q i (Nat.le_refl _) (by omega)))
theorem own_x3_0 : own_x3 0 0 0 := fun i _ => by simp [own_b0]
theorem own_lin (as bs cs : List Int32) (k : Nat) (q : ∀ j, j < k → own_x8 (as.getD j 0) (bs.getD j 0) (cs.getD j 0)) : (own_run cs 0 k 0) &&& (65535 : Int32) = ((own_run as 0 k 0) &&& (65535 : Int32)) ^^^ ((own_run bs 0 k 0) &&& (65535 : Int32)) := by
  have h := own_x3_run as bs cs k 0 0 0 0 (fun j _ h2 => q j (by omega)) own_x3_0
  refine own_bext fun i hi => ?_
  simp only [own_bxor, own_band, own_m16 i hi]
  by_cases r : i < 16
  · rw [h i r]; simp [r]
  · simp [r]
theorem own_run_add (bs : List Int32) : ∀ (k i j : Nat) (c : Int32), own_run bs i (k + j) c = own_run bs (i + k) j (own_run bs i k c)
  | 0, i, j, c => by rw [Nat.zero_add]; rfl
  | k + 1, i, j, c => by
    rw [Nat.add_right_comm, own_run, own_run, own_run_add bs k (i + 1) j, Nat.add_right_comm i 1 k]
    rfl
/-- f in the k-th place, nothing beneath -/
def own_at8 (c : Int32) (k : Nat) (f : Nat → Bool) : Prop := ∀ i, i < 16 → own_b c i = (decide (k ≤ i) && f (i - k))
theorem own_at8_bit {c : Int32} {k : Nat} {f : Nat → Bool} (hf : ∀ j, 8 ≤ j → f j = false) (hk : k ≤ 7) (h : own_at8 c k f) : own_at8 (own_bit c) (k + 1) f := fun i hi => by
  rw [own_bits c i hi, h 15 (by decide), hf (15 - k) (by omega)]
  by_cases q : 1 ≤ i
  · rw [h (i - 1) (by omega)]
    have e : i - 1 - k = i - (k + 1) := by omega
    by_cases r : k + 1 ≤ i
    · have r' : k ≤ i - 1 := by omega
      simp [q, r, r', e]
    · have r' : ¬ k ≤ i - 1 := by omega
      simp [q, r, r']
  · have r : ¬ k + 1 ≤ i := by omega
    simp [q, r]
theorem own_at8_8 {c : Int32} {f : Nat → Bool} (hf : ∀ j, 8 ≤ j → f j = false) (h : own_at8 c 0 f) : own_at8 (own_bit (own_bit (own_bit (own_bit (own_bit (own_bit (own_bit (own_bit c)))))))) 8 f :=
  own_at8_bit hf (by decide) (own_at8_bit hf (by decide) (own_at8_bit hf (by decide) (own_at8_bit hf (by decide) (own_at8_bit hf (by decide) (own_at8_bit hf (by decide) (own_at8_bit hf (by decide) (own_at8_bit hf (by decide) h)))))))
theorem own_in (c x : Int32) (i : Nat) (hi : i < 16) : own_b (c ^^^ ((x &&& (255 : Int32)) <<< ((8 : Int32) &&& 31))) i = (own_b c i ^^ (decide (8 ≤ i) && own_b x (i - 8))) := by
  rw [own_bxor, own_bsh8 _ i (by omega)]
  by_cases r : 8 ≤ i
  · rw [own_band, own_m8 (i - 8) (by omega)]
    have r8 : i - 8 < 8 := by omega
    simp [r, r8]
  · simp [r]
/-- the crc's own two bytes behind it: nothing is left -/
theorem own_two (c x y : Int32) (hx : ∀ i, i < 8 → own_b x i = own_b c (i + 8)) (hy : ∀ i, i < 8 → own_b y i = own_b c i) : (own_byte (own_byte c x) y) &&& (65535 : Int32) = 0 := by
  let f : Nat → Bool := fun j => decide (j < 8) && own_b c j
  have hf : ∀ j, 8 ≤ j → f j = false := fun j hj => by show (decide (j < 8) && _) = false; simp; intro q; omega
  have h1 : own_at8 (c ^^^ ((x &&& (255 : Int32)) <<< ((8 : Int32) &&& 31))) 0 f := fun i hi => by
    rw [own_in c x i hi]
    show _ = (decide (0 ≤ i) && (decide (i - 0 < 8) && own_b c (i - 0)))
    by_cases r : 8 ≤ i
    · have r' : ¬ i < 8 := by omega
      rw [hx (i - 8) (by omega), Nat.sub_add_cancel r]; simp [r, r']
    · have r' : i < 8 := by omega
      simp [r, r']
  have h2 : own_at8 (own_byte c x) 8 f := own_at8_8 hf h1
  have h3 : own_at8 ((own_byte c x) ^^^ ((y &&& (255 : Int32)) <<< ((8 : Int32) &&& 31))) 0 (fun _ => false) := fun i hi => by
    rw [own_in _ y i hi, h2 i hi]
    by_cases r : 8 ≤ i
    · have r' : i - 8 < 8 := by omega
      rw [hy (i - 8) r']
      show (_ && (decide (i - 8 < 8) && own_b c (i - 8)) ^^ _) = _
      simp [r, r']
    · simp [r]
  have h4 : own_at8 (own_byte (own_byte c x) y) 8 (fun _ => false) := own_at8_8 (fun _ _ => rfl) h3
  refine own_bext fun i hi => ?_
  rw [own_band, own_m16 i hi, own_b0]
  by_cases r : i < 16
  · rw [h4 i r]; simp
  · simp [r]
theorem own_app (xs zs : List Int32) (k : Nat) (q : ∀ j, j < k → own_x8 (xs.getD j 0) 0 (zs.getD j 0)) (hx : ∀ i, i < 8 → own_b (zs.getD k 0) i = own_b (own_run xs 0 k 0) (i + 8)) (hy : ∀ i, i < 8 → own_b (zs.getD (k + 1) 0) i = own_b (own_run xs 0 k 0) i) : (own_run zs 0 (k + 2) 0) &&& (65535 : Int32) = 0 := by
  have h := own_x3_run xs ([] : List Int32) zs k 0 0 0 0 (fun j _ h2 => by
    have e : ([] : List Int32).getD j 0 = 0 := rfl
    rw [e]; exact q j (by omega)) own_x3_0
  have h0 : ∀ (m i : Nat), i < 16 → own_b (own_run ([] : List Int32) 0 m 0) i = false := by
    intro m
    have g : ∀ (m j : Nat), own_run ([] : List Int32) j m 0 = 0 := by
      intro m
      induction m with
      | zero => intro j; rfl
      | succ m ih =>
        intro j
        have e : ([] : List Int32).getD j 0 = 0 := rfl
        rw [own_run, e]
        exact ih (j + 1)
    intro i _
    rw [g, own_b0]
  have hk : ∀ i, i < 16 → own_b (own_run zs 0 k 0) i = own_b (own_run xs 0 k 0) i := fun i hi => by rw [h i hi, h0 k i hi]; simp
  rw [own_run_add zs k 0 2 0]
  show (own_byte (own_byte (own_run zs 0 k 0) (zs.getD (0 + k) 0)) (zs.getD (0 + k + 1) 0)) &&& (65535 : Int32) = 0
  rw [Nat.zero_add]
  exact own_two _ _ _ (fun i hi => by rw [hx i hi, hk (i + 8) (by omega)]) (fun i hi => by rw [hy i hi, hk i (by omega)])
theorem own_low8 (x : Int32) (i : Nat) (h : i < 8) : own_b (x.toInt8.toInt32) i = own_b x i := by
  have e : x.toInt8.toInt32.toBitVec = (x.toBitVec.signExtend 8).signExtend 32 := rfl
  simp only [own_b, e]
  rw [BitVec.getLsbD_signExtend, BitVec.getLsbD_signExtend]
  have h1 : i < 32 := by omega
  simp [h, h1]
theorem own_x8_b (x y : Int32) : own_x8 x y (((x ^^^ y).toInt8.toInt32).toInt8.toInt32) := fun i hi => by
  rw [own_low8 _ i hi, own_low8 _ i hi, own_bxor]
theorem own_ush8 (x : Int32) (i : Nat) (h : i < 8) : own_b ((x.toUInt32 >>> ((8 : Int32) &&& 31).toUInt32).toInt32) i = own_b x (i + 8) := by
  have e : ((x.toUInt32 >>> ((8 : Int32) &&& 31).toUInt32).toInt32).toBitVec = x.toBitVec >>> 8 := rfl
  simp only [own_b, e, BitVec.getLsbD_ushiftRight, Nat.add_comm]
theorem own_tc (k : Nat) (h : k ≤ 100) : (Int32.ofNat k).toNatClampNeg = k := by
  rw [own_tn, own_of k h]; rfl
theorem own_up2 (n : Nat) : Int32.ofNat n + 2 = Int32.ofNat (n + 2) := by
  rw [Int32.ofNat_add]; rfl
theorem own_seven (x v : Int32) (h : v = (x &&& (7 : Int32))) : ∃ k : Nat, v = Int32.ofNat k ∧ k ≤ 7 := by
  have b := c_and x 7 (by decide)
  rw [← h] at b
  have e7 : (7 : Int32).toInt = 7 := rfl
  refine ⟨v.toInt.toNat, Int32.toInt_inj.mp ?_, by omega⟩
  rw [own_of _ (by omega)]; omega
theorem own_msk (x : Int32) : ¬ (x &&& (65535 : Int32)) < (0 : Int32) ∧ ¬ (65535 : Int32) < (x &&& (65535 : Int32)) := by
  have b := c_and x 65535 (by decide)
  have e0 : (0 : Int32).toInt = 0 := rfl
  have e1 : (65535 : Int32).toInt = 65535 := rfl
  rw [Int32.lt_iff_toInt_lt, Int32.lt_iff_toInt_lt]
  omega
theorem own_zj (x y v z : Int32) (j ln : Nat) (hj : j < ln) (hl : ln ≤ 7) (hv : v = if Int32.ofNat j < Int32.ofNat ln then (1 : Int32) else (0 : Int32)) (hz : z = ((nar .byte (if v = (0 : Int32) then y else x)).toInt8.toInt32)) : own_x8 x 0 z := by
  have e1 := own_of j (by omega)
  have e2 := own_of ln (by omega)
  have c : Int32.ofNat j < Int32.ofNat ln := by rw [Int32.lt_iff_toInt_lt]; omega
  rw [if_pos c] at hv
  subst hv
  rw [if_neg (by decide)] at hz
  subst hz
  intro i hi
  show own_b ((x.toInt8.toInt32).toInt8.toInt32) i = _
  rw [own_low8 _ i hi, own_low8 _ i hi, own_b0]; simp
theorem own_fin (xs zs : List Int32) (ln : Nat) (hl : ln ≤ 7) (hzl : zs.length = 10) (hz : ∀ j, j < ln → own_x8 (xs.getD j 0) 0 (zs.getD j 0)) (A B : Int32)
    (hA : A = (((((own_run xs 0 ln (0 : Int32)) &&& (65535 : Int32)).toUInt32 >>> ((8 : Int32) &&& 31).toUInt32).toInt32).toInt8.toInt32).toInt8.toInt32) (hB : B = ((((own_run xs 0 ln (0 : Int32)) &&& (65535 : Int32)).toInt8.toInt32).toInt8.toInt32)) :
    (own_run ((zs.set ln A).set (ln + 1) B) 0 (ln + 2) (0 : Int32)) &&& (65535 : Int32) = 0 := by
  have g1 : ((zs.set ln A).set (ln + 1) B).getD ln 0 = A := by
    simp only [List.getD]
    rw [List.getElem?_set_ne (by omega), List.getElem?_set_self (by omega)]; rfl
  have g2 : ((zs.set ln A).set (ln + 1) B).getD (ln + 1) 0 = B := by
    simp only [List.getD]
    rw [List.getElem?_set_self (by rw [List.length_set]; omega)]; rfl
  refine own_app xs _ ln (fun j hj => ?_) (fun i hi => ?_) (fun i hi => ?_)
  · have g : ((zs.set ln A).set (ln + 1) B).getD j 0 = zs.getD j 0 := by
      simp only [List.getD]
      rw [List.getElem?_set_ne (by omega), List.getElem?_set_ne (by omega)]
    rw [g]; exact hz j hj
  · rw [g1, hA, own_low8 _ i hi, own_low8 _ i hi, own_ush8 _ i hi, own_band, own_m16 (i + 8) (by omega)]
    have : i + 8 < 16 := by omega
    simp [this]
  · rw [g2, hB, own_low8 _ i hi, own_low8 _ i hi, own_band, own_m16 i (by omega)]
    have : i < 16 := by omega
    simp [this]
theorem own_j7 {j ln : Nat} (h1 : j < ln) (h2 : ln ≤ 7) : j = 0 ∨ j = 1 ∨ j = 2 ∨ j = 3 ∨ j = 4 ∨ j = 5 ∨ j = 6 := by omega
theorem own_l20 {ln : Nat} (h : ln ≤ 7) : ln ≤ 20 := by omega
theorem own_l22 {ln : Nat} (h : ln ≤ 7) : ln + 2 ≤ 20 := by omega
theorem own_l10 {ln : Nat} (h : ln ≤ 7) : ln < 10 := by omega
theorem own_l11 {ln : Nat} (h : ln ≤ 7) : ln + 1 < 10 := by omega
theorem own_l100 {ln : Nat} (h : ln ≤ 7) : ln ≤ 100 ∧ ln + 1 ≤ 100 := by omega
theorem own_i8 {ln : Nat} (h : ln ≤ 7) : (ln : Int) ≤ (8 : Int32).toInt := by
  have e : (8 : Int32).toInt = 8 := rfl
  omega
theorem own_i10 {ln : Nat} (h : ln ≤ 7) : ((ln + 2 : Nat) : Int) ≤ (10 : Int32).toInt := by
  have e : (10 : Int32).toInt = 10 := rfl
  omega
theorem own_p0 {ln : Nat} (h : ln ≤ 7) : ¬ Int32.ofNat ln < 0 ∧ Int32.ofNat ln < 10 := by
  have q := own_of ln (by omega)
  have e0 : (0 : Int32).toInt = 0 := rfl
  have e10 : (10 : Int32).toInt = 10 := rfl
  rw [Int32.lt_iff_toInt_lt, Int32.lt_iff_toInt_lt]
  omega
theorem own_p1 {ln : Nat} (h : ln ≤ 7) : ¬ Int32.ofNat ln + 1 < 0 ∧ Int32.ofNat ln + 1 < 10 := by
  have q := own_of (ln + 1) (by omega)
  have e0 : (0 : Int32).toInt = 0 := rfl
  have e10 : (10 : Int32).toInt = 10 := rfl
  rw [own_up, Int32.lt_iff_toInt_lt, Int32.lt_iff_toInt_lt]
  omega
theorem own_pd0 : parseMethodDescriptor "([BII)V" = some ⟨[(.array .byte), .int, .int], none⟩ := by decide +kernel
theorem own_pd1 : parseMethodDescriptor "([BI)I" = some ⟨[(.array .byte), .int], some .int⟩ := by decide +kernel
theorem own_pd2 : parseMethodDescriptor "(ZBB)B" = some ⟨[.boolean, .byte, .byte], some .byte⟩ := by decide +kernel
theorem ef_0 (m : MethodId) (x0 : Int32) (x1 : Int32) (x2 : Int32) (x3 : Int32) (x4 : Int32) : entryFrame m #[(.int x0), (.int x1), (.int x2), (.int x3), (.int x4)] maxLocals = mkF m 0 #[.val (.int x0), .val (.int x1), .val (.int x2), .val (.int x3), .val (.int x4), .unset, .unset, .unset, .unset, .unset, .unset, .unset, .unset, .unset, .unset, .unset] [] := by first | (simp [entryFrame, mkF, argsToLocals, Value.category, maxLocals]; done) | rfl
def Q0 (Z : State) (p1 : Int32) (p2 : Int32) (p3 : Int32) (p4 : Int32) (p5 : Int32) (h0 : Heap) (n0 : Nat) (v : Option Value) (h : Heap) (L : List Loc) : Prop := v = some (.int 1) ∧ Fr n0 L
set_option maxRecDepth 65536 in
set_option maxHeartbeats 40000000 in
theorem rm0 (l : Launch) (Z : State) (a0 : Array Value) (hw : ∀ d ∈ tables_1, d.before a0 Z = true) (ws : List Jvm.Cond) (p1 : Int32) (p2 : Int32) (p3 : Int32) (p4 : Int32) (p5 : Int32) (h0 : Heap) (n0 : Nat) (Z0 : n0 ≤ h0.size) :
    MetFree l x (head1 (Jvm.Cond.code x code maxLocals ret :: ws) room_1) (fun aax UU => aax = #[(.int p1), (.int p2), (.int p3), (.int p4), (.int p5)] ∧ Z.Warmed39 UU.vm ∧ UU.heap = h0) (fun _ _ _ _ _ => True) (fun _ UU oux UU' => ∃ rvx Lrx, oux = .returned rvx ∧ Q0 Z p1 p2 p3 p4 p5 h0 n0 rvx UU'.heap Lrx ∧ FrameEnd UU oux UU' Lrx 24 192) := by
  refine MetFree.of_bodySF (plainFor_of_name own_pn_io_subjectwire_auth_Crc16OfPinLaw) hisR ?_
  intro p e s m args below meth c s₁ Bd hml0 hP hK
  obtain ⟨rfl, hZ, hh⟩ := hP
  have hx := Bd.exec
  have hby := Bd.bytes
  have hml : c.maxLocals = 16 := hml0
  have hown : s.vm.findClass "io/subjectwire/auth/Crc16OfPinLaw" = some m.cls := findClass_of_methodNamed Bd.named
  have hnm := (name_of_methodNamed Bd.named Bd.method).1
  have X0 : Stand p l e room_1 s m #[(.int p1), (.int p2), (.int p3), (.int p4), (.int p5)] below meth c s₁ [] 0 0 := Stand.of_body Bd
  have e0 : s₁.heap = h0 := by rw [← hh, Bd.state]; rfl
  have N0 := Fr.nil n0
  have p0 : own_go p e below (s₁.setTop (entryFrame m #[(.int p1), (.int p2), (.int p3), (.int p4), (.int p5)] maxLocals)) (s₁.setTop (mkF m 0 #[.val (.int p1), .val (.int p2), .val (.int p3), .val (.int p4), .val (.int p5), .unset, .unset, .unset, .unset, .unset, .unset, .unset, .unset, .unset, .unset, .unset] [])) := fun ttx ktx => castTop (ef_0 m p1 p2 p3 p4 p5) ktx
  obtain ⟨v1, hv_v1⟩ : ∃ z : Int32, z = (p5 &&& (7 : Int32)) := ⟨_, rfl⟩
  obtain ⟨ln, hln, hl7⟩ := own_seven _ _ hv_v1
  obtain ⟨T2, h2, k2, X2, e2, E2, A2, st2⟩ := newP X0 hx hZ (hw _ (List.mem_of_getElem? (i := 0) rfl)) e0 (g := (mkF m 9 #[.val (.int p1), .val (.int p2), .val (.int p3), .val (.int p4), .val (.int p5), .val (.int v1), .unset, .unset, .unset, .unset, .unset, .unset, .unset, .unset, .unset, .unset] [(.int (9 : Int32))])) rfl (hb hby at_9) rfl (by decide) (cap := 9) (by decide) (by decide) (by decide) (by decide)
  obtain ⟨b2, g2⟩ : ∃ z, z = h0.size := ⟨_, rfl⟩
  rw [← g2] at A2 st2
  have g_b2 : n0 ≤ b2 := Nat.le_trans Z0 (Nat.le_of_eq g2.symm)
  have Z2 : n0 ≤ h2.size := Nat.le_trans Z0 E2.1
  have V2 : Arv Z h2 b2 k2 .byte (9 : Int32) [(.int (0 : Int32)), (.int (0 : Int32)), (.int (0 : Int32)), (.int (0 : Int32)), (.int (0 : Int32)), (.int (0 : Int32)), (.int (0 : Int32)), (.int (0 : Int32)), (.int (0 : Int32))] (.int (0 : Int32)) := (Arv.new A2 (by decide)).pad (pad_rep [] (.int (0 : Int32)) 9)
  obtain ⟨cl3, Ar3, q3, S3, M3, H3, G3⟩ := id V2
  have hin3 : ¬ ((0 : Int32) < 0 ∨ cl3.slots.size ≤ ((0 : Int32)).toNatClampNeg) := inb_of S3 ⟨by decide, by decide⟩
  obtain ⟨T4, h4, X4, e4, W4, st4⟩ := stB X2 hx hZ e2 Ar3 (j := (0 : Int32)) hin3 (g := (mkF m 15 #[.val (.int p1), .val (.int p2), .val (.int p3), .val (.int p4), .val (.int p5), .val (.int v1), .unset, .unset, .unset, .unset, .unset, .unset, .unset, .unset, .unset, .unset] [(.int (49 : Int32)), (.int (0 : Int32)), (.ref b2), (.ref b2)])) rfl rfl (hb hby at_15)
  have Z4 : n0 ≤ h4.size := Nat.le_trans Z2 (Nat.le_of_eq W4.size.symm)
  have N4 := Fr.snoc X4 N0 g_b2
  have V4 : Arv Z h4 b2 k2 .byte (9 : Int32) [(.int ((49 : Int32).toInt8.toInt32)), (.int (0 : Int32)), (.int (0 : Int32)), (.int (0 : Int32)), (.int (0 : Int32)), (.int (0 : Int32)), (.int (0 : Int32)), (.int (0 : Int32)), (.int (0 : Int32))] (.int (0 : Int32)) := Arv.set Ar3 q3 S3 M3 H3 G3 (fits_nar_byte _) W4 0 rfl (Nat.le_of_ble_eq_true rfl)
  obtain ⟨cl5, Ar5, q5, S5, M5, H5, G5⟩ := id V4
  have hin5 : ¬ ((1 : Int32) < 0 ∨ cl5.slots.size ≤ ((1 : Int32)).toNatClampNeg) := inb_of S5 ⟨by decide, by decide⟩
  obtain ⟨T6, h6, X6, e6, W6, st6⟩ := stB X4 hx hZ e4 Ar5 (j := (1 : Int32)) hin5 (g := (mkF m 20 #[.val (.int p1), .val (.int p2), .val (.int p3), .val (.int p4), .val (.int p5), .val (.int v1), .unset, .unset, .unset, .unset, .unset, .unset, .unset, .unset, .unset, .unset] [(.int (50 : Int32)), (.int (1 : Int32)), (.ref b2), (.ref b2)])) rfl rfl (hb hby at_20)
  have Z6 : n0 ≤ h6.size := Nat.le_trans Z4 (Nat.le_of_eq W6.size.symm)
  have N6 := Fr.snoc X6 N4 g_b2
  have V6 : Arv Z h6 b2 k2 .byte (9 : Int32) [(.int ((49 : Int32).toInt8.toInt32)), (.int ((50 : Int32).toInt8.toInt32)), (.int (0 : Int32)), (.int (0 : Int32)), (.int (0 : Int32)), (.int (0 : Int32)), (.int (0 : Int32)), (.int (0 : Int32)), (.int (0 : Int32))] (.int (0 : Int32)) := Arv.set Ar5 q5 S5 M5 H5 G5 (fits_nar_byte _) W6 1 rfl (Nat.le_of_ble_eq_true rfl)
  have go7 : own_go p e below (s₁.setTop (entryFrame m #[(.int p1), (.int p2), (.int p3), (.int p4), (.int p5)] maxLocals)) (T6.setTop (mkF m 21 #[.val (.int p1), .val (.int p2), .val (.int p3), .val (.int p4), .val (.int p5), .val (.int v1), .unset, .unset, .unset, .unset, .unset, .unset, .unset, .unset, .unset, .unset] [(.ref b2)])) := by
    intro ttx ktx
    refine p0 ttx ?_
    show Steps p.tables e below (s₁.setTop (mkF m 0 #[.val (.int p1), .val (.int p2), .val (.int p3), .val (.int p4), .val (.int p5), .unset, .unset, .unset, .unset, .unset, .unset, .unset, .unset, .unset, .unset, .unset] [])) _
    refine XS.iload X0.here hx rfl (hb hby at_0) rfl ?_
    show Steps p.tables e below (s₁.setTop (mkF m 2 #[.val (.int p1), .val (.int p2), .val (.int p3), .val (.int p4), .val (.int p5), .unset, .unset, .unset, .unset, .unset, .unset, .unset, .unset, .unset, .unset, .unset] [(.int p5)])) _
    refine XS.bipush X0.here hx rfl (hb hby at_2) ?_
    show Steps p.tables e below (s₁.setTop (mkF m 4 #[.val (.int p1), .val (.int p2), .val (.int p3), .val (.int p4), .val (.int p5), .unset, .unset, .unset, .unset, .unset, .unset, .unset, .unset, .unset, .unset, .unset] [(.int (7 : Int32)), (.int p5)])) _
    refine XS.iand X0.here hx rfl (hb hby at_4) rfl ?_
    show Steps p.tables e below (s₁.setTop (mkF m 5 #[.val (.int p1), .val (.int p2), .val (.int p3), .val (.int p4), .val (.int p5), .unset, .unset, .unset, .unset, .unset, .unset, .unset, .unset, .unset, .unset, .unset] [(.int (p5 &&& (7 : Int32)))])) _
    rw [← hv_v1]
    show Steps p.tables e below (s₁.setTop (mkF m 5 #[.val (.int p1), .val (.int p2), .val (.int p3), .val (.int p4), .val (.int p5), .unset, .unset, .unset, .unset, .unset, .unset, .unset, .unset, .unset, .unset, .unset] [(.int v1)])) _
    refine XS.istore X0.here hx rfl (hb hby at_5) rfl (l' := #[.val (.int p1), .val (.int p2), .val (.int p3), .val (.int p4), .val (.int p5), .val (.int v1), .unset, .unset, .unset, .unset, .unset, .unset, .unset, .unset, .unset, .unset]) rfl ?_
    show Steps p.tables e below (s₁.setTop (mkF m 7 #[.val (.int p1), .val (.int p2), .val (.int p3), .val (.int p4), .val (.int p5), .val (.int v1), .unset, .unset, .unset, .unset, .unset, .unset, .unset, .unset, .unset, .unset] [])) _
    refine XS.bipush X0.here hx rfl (hb hby at_7) ?_
    show Steps p.tables e below (s₁.setTop (mkF m 9 #[.val (.int p1), .val (.int p2), .val (.int p3), .val (.int p4), .val (.int p5), .val (.int v1), .unset, .unset, .unset, .unset, .unset, .unset, .unset, .unset, .unset, .unset] [(.int (9 : Int32))])) _
    refine st2 _ ?_
    show Steps p.tables e below (T2.setTop (mkF m 11 #[.val (.int p1), .val (.int p2), .val (.int p3), .val (.int p4), .val (.int p5), .val (.int v1), .unset, .unset, .unset, .unset, .unset, .unset, .unset, .unset, .unset, .unset] [(.ref b2)])) _
    refine XS.dup X2.here hx rfl (hb hby at_11) rfl rfl ?_
    show Steps p.tables e below (T2.setTop (mkF m 12 #[.val (.int p1), .val (.int p2), .val (.int p3), .val (.int p4), .val (.int p5), .val (.int v1), .unset, .unset, .unset, .unset, .unset, .unset, .unset, .unset, .unset, .unset] [(.ref b2), (.ref b2)])) _
    refine XS.iconst X2.here hx rfl (hb hby at_12) ?_
    show Steps p.tables e below (T2.setTop (mkF m 13 #[.val (.int p1), .val (.int p2), .val (.int p3), .val (.int p4), .val (.int p5), .val (.int v1), .unset, .unset, .unset, .unset, .unset, .unset, .unset, .unset, .unset, .unset] [(.int (0 : Int32)), (.ref b2), (.ref b2)])) _
    refine XS.bipush X2.here hx rfl (hb hby at_13) ?_
    show Steps p.tables e below (T2.setTop (mkF m 15 #[.val (.int p1), .val (.int p2), .val (.int p3), .val (.int p4), .val (.int p5), .val (.int v1), .unset, .unset, .unset, .unset, .unset, .unset, .unset, .unset, .unset, .unset] [(.int (49 : Int32)), (.int (0 : Int32)), (.ref b2), (.ref b2)])) _
    refine st4 _ ?_
    show Steps p.tables e below (T4.setTop (mkF m 16 #[.val (.int p1), .val (.int p2), .val (.int p3), .val (.int p4), .val (.int p5), .val (.int v1), .unset, .unset, .unset, .unset, .unset, .unset, .unset, .unset, .unset, .unset] [(.ref b2)])) _
    refine XS.dup X4.here hx rfl (hb hby at_16) rfl rfl ?_
    show Steps p.tables e below (T4.setTop (mkF m 17 #[.val (.int p1), .val (.int p2), .val (.int p3), .val (.int p4), .val (.int p5), .val (.int v1), .unset, .unset, .unset, .unset, .unset, .unset, .unset, .unset, .unset, .unset] [(.ref b2), (.ref b2)])) _
    refine XS.iconst X4.here hx rfl (hb hby at_17) ?_
    show Steps p.tables e below (T4.setTop (mkF m 18 #[.val (.int p1), .val (.int p2), .val (.int p3), .val (.int p4), .val (.int p5), .val (.int v1), .unset, .unset, .unset, .unset, .unset, .unset, .unset, .unset, .unset, .unset] [(.int (1 : Int32)), (.ref b2), (.ref b2)])) _
    refine XS.bipush X4.here hx rfl (hb hby at_18) ?_
    show Steps p.tables e below (T4.setTop (mkF m 20 #[.val (.int p1), .val (.int p2), .val (.int p3), .val (.int p4), .val (.int p5), .val (.int v1), .unset, .unset, .unset, .unset, .unset, .unset, .unset, .unset, .unset, .unset] [(.int (50 : Int32)), (.int (1 : Int32)), (.ref b2), (.ref b2)])) _
    refine st6 _ ?_
    exact ktx
  obtain ⟨cl8, Ar8, q8, S8, M8, H8, G8⟩ := id V6
  have hin8 : ¬ ((2 : Int32) < 0 ∨ cl8.slots.size ≤ ((2 : Int32)).toNatClampNeg) := inb_of S8 ⟨by decide, by decide⟩
  obtain ⟨T9, h9, X9, e9, W9, st9⟩ := stB X6 hx hZ e6 Ar8 (j := (2 : Int32)) hin8 (g := (mkF m 25 #[.val (.int p1), .val (.int p2), .val (.int p3), .val (.int p4), .val (.int p5), .val (.int v1), .unset, .unset, .unset, .unset, .unset, .unset, .unset, .unset, .unset, .unset] [(.int (51 : Int32)), (.int (2 : Int32)), (.ref b2), (.ref b2)])) rfl rfl (hb hby at_25)
  have Z9 : n0 ≤ h9.size := Nat.le_trans Z6 (Nat.le_of_eq W9.size.symm)
  have N9 := Fr.snoc X9 N6 g_b2
  have V9 : Arv Z h9 b2 k2 .byte (9 : Int32) [(.int ((49 : Int32).toInt8.toInt32)), (.int ((50 : Int32).toInt8.toInt32)), (.int ((51 : Int32).toInt8.toInt32)), (.int (0 : Int32)), (.int (0 : Int32)), (.int (0 : Int32)), (.int (0 : Int32)), (.int (0 : Int32)), (.int (0 : Int32))] (.int (0 : Int32)) := Arv.set Ar8 q8 S8 M8 H8 G8 (fits_nar_byte _) W9 2 rfl (Nat.le_of_ble_eq_true rfl)
  obtain ⟨cl10, Ar10, q10, S10, M10, H10, G10⟩ := id V9
  have hin10 : ¬ ((3 : Int32) < 0 ∨ cl10.slots.size ≤ ((3 : Int32)).toNatClampNeg) := inb_of S10 ⟨by decide, by decide⟩
  obtain ⟨T11, h11, X11, e11, W11, st11⟩ := stB X9 hx hZ e9 Ar10 (j := (3 : Int32)) hin10 (g := (mkF m 30 #[.val (.int p1), .val (.int p2), .val (.int p3), .val (.int p4), .val (.int p5), .val (.int v1), .unset, .unset, .unset, .unset, .unset, .unset, .unset, .unset, .unset, .unset] [(.int (52 : Int32)), (.int (3 : Int32)), (.ref b2), (.ref b2)])) rfl rfl (hb hby at_30)
  have Z11 : n0 ≤ h11.size := Nat.le_trans Z9 (Nat.le_of_eq W11.size.symm)
  have N11 := Fr.snoc X11 N9 g_b2
  have V11 : Arv Z h11 b2 k2 .byte (9 : Int32) [(.int ((49 : Int32).toInt8.toInt32)), (.int ((50 : Int32).toInt8.toInt32)), (.int ((51 : Int32).toInt8.toInt32)), (.int ((52 : Int32).toInt8.toInt32)), (.int (0 : Int32)), (.int (0 : Int32)), (.int (0 : Int32)), (.int (0 : Int32)), (.int (0 : Int32))] (.int (0 : Int32)) := Arv.set Ar10 q10 S10 M10 H10 G10 (fits_nar_byte _) W11 3 rfl (Nat.le_of_ble_eq_true rfl)
  obtain ⟨cl12, Ar12, q12, S12, M12, H12, G12⟩ := id V11
  have hin12 : ¬ ((4 : Int32) < 0 ∨ cl12.slots.size ≤ ((4 : Int32)).toNatClampNeg) := inb_of S12 ⟨by decide, by decide⟩
  obtain ⟨T13, h13, X13, e13, W13, st13⟩ := stB X11 hx hZ e11 Ar12 (j := (4 : Int32)) hin12 (g := (mkF m 35 #[.val (.int p1), .val (.int p2), .val (.int p3), .val (.int p4), .val (.int p5), .val (.int v1), .unset, .unset, .unset, .unset, .unset, .unset, .unset, .unset, .unset, .unset] [(.int (53 : Int32)), (.int (4 : Int32)), (.ref b2), (.ref b2)])) rfl rfl (hb hby at_35)
  have Z13 : n0 ≤ h13.size := Nat.le_trans Z11 (Nat.le_of_eq W13.size.symm)
  have N13 := Fr.snoc X13 N11 g_b2
  have V13 : Arv Z h13 b2 k2 .byte (9 : Int32) [(.int ((49 : Int32).toInt8.toInt32)), (.int ((50 : Int32).toInt8.toInt32)), (.int ((51 : Int32).toInt8.toInt32)), (.int ((52 : Int32).toInt8.toInt32)), (.int ((53 : Int32).toInt8.toInt32)), (.int (0 : Int32)), (.int (0 : Int32)), (.int (0 : Int32)), (.int (0 : Int32))] (.int (0 : Int32)) := Arv.set Ar12 q12 S12 M12 H12 G12 (fits_nar_byte _) W13 4 rfl (Nat.le_of_ble_eq_true rfl)
  have go14 : own_go p e below (s₁.setTop (entryFrame m #[(.int p1), (.int p2), (.int p3), (.int p4), (.int p5)] maxLocals)) (T13.setTop (mkF m 40 #[.val (.int p1), .val (.int p2), .val (.int p3), .val (.int p4), .val (.int p5), .val (.int v1), .unset, .unset, .unset, .unset, .unset, .unset, .unset, .unset, .unset, .unset] [(.int (54 : Int32)), (.int (5 : Int32)), (.ref b2), (.ref b2)])) := by
    intro ttx ktx
    refine go7 ttx ?_
    show Steps p.tables e below (T6.setTop (mkF m 21 #[.val (.int p1), .val (.int p2), .val (.int p3), .val (.int p4), .val (.int p5), .val (.int v1), .unset, .unset, .unset, .unset, .unset, .unset, .unset, .unset, .unset, .unset] [(.ref b2)])) _
    refine XS.dup X6.here hx rfl (hb hby at_21) rfl rfl ?_
    show Steps p.tables e below (T6.setTop (mkF m 22 #[.val (.int p1), .val (.int p2), .val (.int p3), .val (.int p4), .val (.int p5), .val (.int v1), .unset, .unset, .unset, .unset, .unset, .unset, .unset, .unset, .unset, .unset] [(.ref b2), (.ref b2)])) _
    refine XS.iconst X6.here hx rfl (hb hby at_22) ?_
    show Steps p.tables e below (T6.setTop (mkF m 23 #[.val (.int p1), .val (.int p2), .val (.int p3), .val (.int p4), .val (.int p5), .val (.int v1), .unset, .unset, .unset, .unset, .unset, .unset, .unset, .unset, .unset, .unset] [(.int (2 : Int32)), (.ref b2), (.ref b2)])) _
    refine XS.bipush X6.here hx rfl (hb hby at_23) ?_
    show Steps p.tables e below (T6.setTop (mkF m 25 #[.val (.int p1), .val (.int p2), .val (.int p3), .val (.int p4), .val (.int p5), .val (.int v1), .unset, .unset, .unset, .unset, .unset, .unset, .unset, .unset, .unset, .unset] [(.int (51 : Int32)), (.int (2 : Int32)), (.ref b2), (.ref b2)])) _
    refine st9 _ ?_
    show Steps p.tables e below (T9.setTop (mkF m 26 #[.val (.int p1), .val (.int p2), .val (.int p3), .val (.int p4), .val (.int p5), .val (.int v1), .unset, .unset, .unset, .unset, .unset, .unset, .unset, .unset, .unset, .unset] [(.ref b2)])) _
    refine XS.dup X9.here hx rfl (hb hby at_26) rfl rfl ?_
    show Steps p.tables e below (T9.setTop (mkF m 27 #[.val (.int p1), .val (.int p2), .val (.int p3), .val (.int p4), .val (.int p5), .val (.int v1), .unset, .unset, .unset, .unset, .unset, .unset, .unset, .unset, .unset, .unset] [(.ref b2), (.ref b2)])) _
    refine XS.iconst X9.here hx rfl (hb hby at_27) ?_
    show Steps p.tables e below (T9.setTop (mkF m 28 #[.val (.int p1), .val (.int p2), .val (.int p3), .val (.int p4), .val (.int p5), .val (.int v1), .unset, .unset, .unset, .unset, .unset, .unset, .unset, .unset, .unset, .unset] [(.int (3 : Int32)), (.ref b2), (.ref b2)])) _
    refine XS.bipush X9.here hx rfl (hb hby at_28) ?_
    show Steps p.tables e below (T9.setTop (mkF m 30 #[.val (.int p1), .val (.int p2), .val (.int p3), .val (.int p4), .val (.int p5), .val (.int v1), .unset, .unset, .unset, .unset, .unset, .unset, .unset, .unset, .unset, .unset] [(.int (52 : Int32)), (.int (3 : Int32)), (.ref b2), (.ref b2)])) _
    refine st11 _ ?_
    show Steps p.tables e below (T11.setTop (mkF m 31 #[.val (.int p1), .val (.int p2), .val (.int p3), .val (.int p4), .val (.int p5), .val (.int v1), .unset, .unset, .unset, .unset, .unset, .unset, .unset, .unset, .unset, .unset] [(.ref b2)])) _
    refine XS.dup X11.here hx rfl (hb hby at_31) rfl rfl ?_
    show Steps p.tables e below (T11.setTop (mkF m 32 #[.val (.int p1), .val (.int p2), .val (.int p3), .val (.int p4), .val (.int p5), .val (.int v1), .unset, .unset, .unset, .unset, .unset, .unset, .unset, .unset, .unset, .unset] [(.ref b2), (.ref b2)])) _
    refine XS.iconst X11.here hx rfl (hb hby at_32) ?_
    show Steps p.tables e below (T11.setTop (mkF m 33 #[.val (.int p1), .val (.int p2), .val (.int p3), .val (.int p4), .val (.int p5), .val (.int v1), .unset, .unset, .unset, .unset, .unset, .unset, .unset, .unset, .unset, .unset] [(.int (4 : Int32)), (.ref b2), (.ref b2)])) _
    refine XS.bipush X11.here hx rfl (hb hby at_33) ?_
    show Steps p.tables e below (T11.setTop (mkF m 35 #[.val (.int p1), .val (.int p2), .val (.int p3), .val (.int p4), .val (.int p5), .val (.int v1), .unset, .unset, .unset, .unset, .unset, .unset, .unset, .unset, .unset, .unset] [(.int (53 : Int32)), (.int (4 : Int32)), (.ref b2), (.ref b2)])) _
    refine st13 _ ?_
    show Steps p.tables e below (T13.setTop (mkF m 36 #[.val (.int p1), .val (.int p2), .val (.int p3), .val (.int p4), .val (.int p5), .val (.int v1), .unset, .unset, .unset, .unset, .unset, .unset, .unset, .unset, .unset, .unset] [(.ref b2)])) _
    refine XS.dup X13.here hx rfl (hb hby at_36) rfl rfl ?_
    show Steps p.tables e below (T13.setTop (mkF m 37 #[.val (.int p1), .val (.int p2), .val (.int p3), .val (.int p4), .val (.int p5), .val (.int v1), .unset, .unset, .unset, .unset, .unset, .unset, .unset, .unset, .unset, .unset] [(.ref b2), (.ref b2)])) _
    refine XS.iconst X13.here hx rfl (hb hby at_37) ?_
    show Steps p.tables e below (T13.setTop (mkF m 38 #[.val (.int p1), .val (.int p2), .val (.int p3), .val (.int p4), .val (.int p5), .val (.int v1), .unset, .unset, .unset, .unset, .unset, .unset, .unset, .unset, .unset, .unset] [(.int (5 : Int32)), (.ref b2), (.ref b2)])) _
    refine XS.bipush X13.here hx rfl (hb hby at_38) ?_
    exact ktx
  obtain ⟨cl15, Ar15, q15, S15, M15, H15, G15⟩ := id V13
  have hin15 : ¬ ((5 : Int32) < 0 ∨ cl15.slots.size ≤ ((5 : Int32)).toNatClampNeg) := inb_of S15 ⟨by decide, by decide⟩
  obtain ⟨T16, h16, X16, e16, W16, st16⟩ := stB X13 hx hZ e13 Ar15 (j := (5 : Int32)) hin15 (g := (mkF m 40 #[.val (.int p1), .val (.int p2), .val (.int p3), .val (.int p4), .val (.int p5), .val (.int v1), .unset, .unset, .unset, .unset, .unset, .unset, .unset, .unset, .unset, .unset] [(.int (54 : Int32)), (.int (5 : Int32)), (.ref b2), (.ref b2)])) rfl rfl (hb hby at_40)
  have Z16 : n0 ≤ h16.size := Nat.le_trans Z13 (Nat.le_of_eq W16.size.symm)
  have N16 := Fr.snoc X16 N13 g_b2
  have V16 : Arv Z h16 b2 k2 .byte (9 : Int32) [(.int ((49 : Int32).toInt8.toInt32)), (.int ((50 : Int32).toInt8.toInt32)), (.int ((51 : Int32).toInt8.toInt32)), (.int ((52 : Int32).toInt8.toInt32)), (.int ((53 : Int32).toInt8.toInt32)), (.int ((54 : Int32).toInt8.toInt32)), (.int (0 : Int32)), (.int (0 : Int32)), (.int (0 : Int32))] (.int (0 : Int32)) := Arv.set Ar15 q15 S15 M15 H15 G15 (fits_nar_byte _) W16 5 rfl (Nat.le_of_ble_eq_true rfl)
  obtain ⟨cl17, Ar17, q17, S17, M17, H17, G17⟩ := id V16
  have hin17 : ¬ ((6 : Int32) < 0 ∨ cl17.slots.size ≤ ((6 : Int32)).toNatClampNeg) := inb_of S17 ⟨by decide, by decide⟩
  obtain ⟨T18, h18, X18, e18, W18, st18⟩ := stB X16 hx hZ e16 Ar17 (j := (6 : Int32)) hin17 (g := (mkF m 46 #[.val (.int p1), .val (.int p2), .val (.int p3), .val (.int p4), .val (.int p5), .val (.int v1), .unset, .unset, .unset, .unset, .unset, .unset, .unset, .unset, .unset, .unset] [(.int (55 : Int32)), (.int (6 : Int32)), (.ref b2), (.ref b2)])) rfl rfl (hb hby at_46)
  have Z18 : n0 ≤ h18.size := Nat.le_trans Z16 (Nat.le_of_eq W18.size.symm)
  have N18 := Fr.snoc X18 N16 g_b2
  have V18 : Arv Z h18 b2 k2 .byte (9 : Int32) [(.int ((49 : Int32).toInt8.toInt32)), (.int ((50 : Int32).toInt8.toInt32)), (.int ((51 : Int32).toInt8.toInt32)), (.int ((52 : Int32).toInt8.toInt32)), (.int ((53 : Int32).toInt8.toInt32)), (.int ((54 : Int32).toInt8.toInt32)), (.int ((55 : Int32).toInt8.toInt32)), (.int (0 : Int32)), (.int (0 : Int32))] (.int (0 : Int32)) := Arv.set Ar17 q17 S17 M17 H17 G17 (fits_nar_byte _) W18 6 rfl (Nat.le_of_ble_eq_true rfl)
  obtain ⟨cl19, Ar19, q19, S19, M19, H19, G19⟩ := id V18
  have hin19 : ¬ ((7 : Int32) < 0 ∨ cl19.slots.size ≤ ((7 : Int32)).toNatClampNeg) := inb_of S19 ⟨by decide, by decide⟩
  obtain ⟨T20, h20, X20, e20, W20, st20⟩ := stB X18 hx hZ e18 Ar19 (j := (7 : Int32)) hin19 (g := (mkF m 52 #[.val (.int p1), .val (.int p2), .val (.int p3), .val (.int p4), .val (.int p5), .val (.int v1), .unset, .unset, .unset, .unset, .unset, .unset, .unset, .unset, .unset, .unset] [(.int (56 : Int32)), (.int (7 : Int32)), (.ref b2), (.ref b2)])) rfl rfl (hb hby at_52)
  have Z20 : n0 ≤ h20.size := Nat.le_trans Z18 (Nat.le_of_eq W20.size.symm)
  have N20 := Fr.snoc X20 N18 g_b2
  have V20 : Arv Z h20 b2 k2 .byte (9 : Int32) [(.int ((49 : Int32).toInt8.toInt32)), (.int ((50 : Int32).toInt8.toInt32)), (.int ((51 : Int32).toInt8.toInt32)), (.int ((52 : Int32).toInt8.toInt32)), (.int ((53 : Int32).toInt8.toInt32)), (.int ((54 : Int32).toInt8.toInt32)), (.int ((55 : Int32).toInt8.toInt32)), (.int ((56 : Int32).toInt8.toInt32)), (.int (0 : Int32))] (.int (0 : Int32)) := Arv.set Ar19 q19 S19 M19 H19 G19 (fits_nar_byte _) W20 7 rfl (Nat.le_of_ble_eq_true rfl)
  obtain ⟨cl21, Ar21, q21, S21, M21, H21, G21⟩ := id V20
  have hin21 : ¬ ((8 : Int32) < 0 ∨ cl21.slots.size ≤ ((8 : Int32)).toNatClampNeg) := inb_of S21 ⟨by decide, by decide⟩
  obtain ⟨T22, h22, X22, e22, W22, st22⟩ := stB X20 hx hZ e20 Ar21 (j := (8 : Int32)) hin21 (g := (mkF m 58 #[.val (.int p1), .val (.int p2), .val (.int p3), .val (.int p4), .val (.int p5), .val (.int v1), .unset, .unset, .unset, .unset, .unset, .unset, .unset, .unset, .unset, .unset] [(.int (57 : Int32)), (.int (8 : Int32)), (.ref b2), (.ref b2)])) rfl rfl (hb hby at_58)
  have Z22 : n0 ≤ h22.size := Nat.le_trans Z20 (Nat.le_of_eq W22.size.symm)
  have N22 := Fr.snoc X22 N20 g_b2
  have V22 : Arv Z h22 b2 k2 .byte (9 : Int32) [(.int ((49 : Int32).toInt8.toInt32)), (.int ((50 : Int32).toInt8.toInt32)), (.int ((51 : Int32).toInt8.toInt32)), (.int ((52 : Int32).toInt8.toInt32)), (.int ((53 : Int32).toInt8.toInt32)), (.int ((54 : Int32).toInt8.toInt32)), (.int ((55 : Int32).toInt8.toInt32)), (.int ((56 : Int32).toInt8.toInt32)), (.int ((57 : Int32).toInt8.toInt32))] (.int (0 : Int32)) := Arv.set Ar21 q21 S21 M21 H21 G21 (fits_nar_byte _) W22 8 rfl (Nat.le_of_ble_eq_true rfl)
  have go23 : own_go p e below (s₁.setTop (entryFrame m #[(.int p1), (.int p2), (.int p3), (.int p4), (.int p5)] maxLocals)) (T22.setTop (mkF m 63 #[.val (.int p1), .val (.int p2), .val (.int p3), .val (.int p4), .val (.int p5), .val (.int v1), .val (.ref b2), .unset, .unset, .unset, .unset, .unset, .unset, .unset, .unset, .unset] [(.int (8 : Int32))])) := by
    intro ttx ktx
    refine go14 ttx ?_
    show Steps p.tables e below (T13.setTop (mkF m 40 #[.val (.int p1), .val (.int p2), .val (.int p3), .val (.int p4), .val (.int p5), .val (.int v1), .unset, .unset, .unset, .unset, .unset, .unset, .unset, .unset, .unset, .unset] [(.int (54 : Int32)), (.int (5 : Int32)), (.ref b2), (.ref b2)])) _
    refine st16 _ ?_
    show Steps p.tables e below (T16.setTop (mkF m 41 #[.val (.int p1), .val (.int p2), .val (.int p3), .val (.int p4), .val (.int p5), .val (.int v1), .unset, .unset, .unset, .unset, .unset, .unset, .unset, .unset, .unset, .unset] [(.ref b2)])) _
    refine XS.dup X16.here hx rfl (hb hby at_41) rfl rfl ?_
    show Steps p.tables e below (T16.setTop (mkF m 42 #[.val (.int p1), .val (.int p2), .val (.int p3), .val (.int p4), .val (.int p5), .val (.int v1), .unset, .unset, .unset, .unset, .unset, .unset, .unset, .unset, .unset, .unset] [(.ref b2), (.ref b2)])) _
    refine XS.bipush X16.here hx rfl (hb hby at_42) ?_
    show Steps p.tables e below (T16.setTop (mkF m 44 #[.val (.int p1), .val (.int p2), .val (.int p3), .val (.int p4), .val (.int p5), .val (.int v1), .unset, .unset, .unset, .unset, .unset, .unset, .unset, .unset, .unset, .unset] [(.int (6 : Int32)), (.ref b2), (.ref b2)])) _
    refine XS.bipush X16.here hx rfl (hb hby at_44) ?_
    show Steps p.tables e below (T16.setTop (mkF m 46 #[.val (.int p1), .val (.int p2), .val (.int p3), .val (.int p4), .val (.int p5), .val (.int v1), .unset, .unset, .unset, .unset, .unset, .unset, .unset, .unset, .unset, .unset] [(.int (55 : Int32)), (.int (6 : Int32)), (.ref b2), (.ref b2)])) _
    refine st18 _ ?_
    show Steps p.tables e below (T18.setTop (mkF m 47 #[.val (.int p1), .val (.int p2), .val (.int p3), .val (.int p4), .val (.int p5), .val (.int v1), .unset, .unset, .unset, .unset, .unset, .unset, .unset, .unset, .unset, .unset] [(.ref b2)])) _
    refine XS.dup X18.here hx rfl (hb hby at_47) rfl rfl ?_
    show Steps p.tables e below (T18.setTop (mkF m 48 #[.val (.int p1), .val (.int p2), .val (.int p3), .val (.int p4), .val (.int p5), .val (.int v1), .unset, .unset, .unset, .unset, .unset, .unset, .unset, .unset, .unset, .unset] [(.ref b2), (.ref b2)])) _
    refine XS.bipush X18.here hx rfl (hb hby at_48) ?_
    show Steps p.tables e below (T18.setTop (mkF m 50 #[.val (.int p1), .val (.int p2), .val (.int p3), .val (.int p4), .val (.int p5), .val (.int v1), .unset, .unset, .unset, .unset, .unset, .unset, .unset, .unset, .unset, .unset] [(.int (7 : Int32)), (.ref b2), (.ref b2)])) _
    refine XS.bipush X18.here hx rfl (hb hby at_50) ?_
    show Steps p.tables e below (T18.setTop (mkF m 52 #[.val (.int p1), .val (.int p2), .val (.int p3), .val (.int p4), .val (.int p5), .val (.int v1), .unset, .unset, .unset, .unset, .unset, .unset, .unset, .unset, .unset, .unset] [(.int (56 : Int32)), (.int (7 : Int32)), (.ref b2), (.ref b2)])) _
    refine st20 _ ?_
    show Steps p.tables e below (T20.setTop (mkF m 53 #[.val (.int p1), .val (.int p2), .val (.int p3), .val (.int p4), .val (.int p5), .val (.int v1), .unset, .unset, .unset, .unset, .unset, .unset, .unset, .unset, .unset, .unset] [(.ref b2)])) _
    refine XS.dup X20.here hx rfl (hb hby at_53) rfl rfl ?_
    show Steps p.tables e below (T20.setTop (mkF m 54 #[.val (.int p1), .val (.int p2), .val (.int p3), .val (.int p4), .val (.int p5), .val (.int v1), .unset, .unset, .unset, .unset, .unset, .unset, .unset, .unset, .unset, .unset] [(.ref b2), (.ref b2)])) _
    refine XS.bipush X20.here hx rfl (hb hby at_54) ?_
    show Steps p.tables e below (T20.setTop (mkF m 56 #[.val (.int p1), .val (.int p2), .val (.int p3), .val (.int p4), .val (.int p5), .val (.int v1), .unset, .unset, .unset, .unset, .unset, .unset, .unset, .unset, .unset, .unset] [(.int (8 : Int32)), (.ref b2), (.ref b2)])) _
    refine XS.bipush X20.here hx rfl (hb hby at_56) ?_
    show Steps p.tables e below (T20.setTop (mkF m 58 #[.val (.int p1), .val (.int p2), .val (.int p3), .val (.int p4), .val (.int p5), .val (.int v1), .unset, .unset, .unset, .unset, .unset, .unset, .unset, .unset, .unset, .unset] [(.int (57 : Int32)), (.int (8 : Int32)), (.ref b2), (.ref b2)])) _
    refine st22 _ ?_
    show Steps p.tables e below (T22.setTop (mkF m 59 #[.val (.int p1), .val (.int p2), .val (.int p3), .val (.int p4), .val (.int p5), .val (.int v1), .unset, .unset, .unset, .unset, .unset, .unset, .unset, .unset, .unset, .unset] [(.ref b2)])) _
    refine XS.astore X22.here hx rfl (hb hby at_59) rfl rfl (l' := #[.val (.int p1), .val (.int p2), .val (.int p3), .val (.int p4), .val (.int p5), .val (.int v1), .val (.ref b2), .unset, .unset, .unset, .unset, .unset, .unset, .unset, .unset, .unset]) rfl ?_
    show Steps p.tables e below (T22.setTop (mkF m 61 #[.val (.int p1), .val (.int p2), .val (.int p3), .val (.int p4), .val (.int p5), .val (.int v1), .val (.ref b2), .unset, .unset, .unset, .unset, .unset, .unset, .unset, .unset, .unset] [])) _
    refine XS.bipush X22.here hx rfl (hb hby at_61) ?_
    exact ktx
  obtain ⟨T24, h24, k24, X24, e24, E24, A24, st24⟩ := newP X22 hx hZ (hw _ (List.mem_of_getElem? (i := 0) rfl)) e22 (g := (mkF m 63 #[.val (.int p1), .val (.int p2), .val (.int p3), .val (.int p4), .val (.int p5), .val (.int v1), .val (.ref b2), .unset, .unset, .unset, .unset, .unset, .unset, .unset, .unset, .unset] [(.int (8 : Int32))])) rfl (hb hby at_63) rfl (by decide) (cap := 8) (by decide) (by decide) (by decide) (by decide)
  obtain ⟨b24, g24⟩ : ∃ z, z = h22.size := ⟨_, rfl⟩
  rw [← g24] at A24 st24
  have ne25 : b2 ≠ b24 := Nat.ne_of_lt (Nat.lt_of_lt_of_le V22.lt (Nat.le_of_eq g24.symm))
  have g_b24 : n0 ≤ b24 := Nat.le_trans Z22 (Nat.le_of_eq g24.symm)
  have Z24 : n0 ≤ h24.size := Nat.le_trans Z22 E24.1
  have V24 : Arv Z h24 b24 k24 .byte (8 : Int32) [(.int (0 : Int32)), (.int (0 : Int32)), (.int (0 : Int32)), (.int (0 : Int32)), (.int (0 : Int32)), (.int (0 : Int32)), (.int (0 : Int32)), (.int (0 : Int32))] (.int (0 : Int32)) := (Arv.new A24 (by decide)).pad (pad_rep [] (.int (0 : Int32)) 8)
  obtain ⟨_, _, ⟨T26, L26, k26, n26⟩, -, X26, ⟨Lc26, hQ26, l26, y26, z26⟩, st26⟩ := Jvm.LawKit.callS X24 hx (y := (⟨"io/subjectwire/auth/Crc16OfPinLaw", "put", "([BII)V"⟩ : MethodName)) hown (mvT hZ (hw _ (List.mem_of_getElem? (i := 1) rfl))) (mvT hZ (hw _ (List.mem_of_getElem? (i := 2) rfl))) (mvT hZ (hw _ (List.mem_of_getElem? (i := 3) rfl))) (mvT hZ (hw _ (List.mem_of_getElem? (i := 4) rfl))) (by decide) (backOf (W := 0) (rmPUT0 l Z a0 hw [] b24 p1 k24 (0 : Int32) (0 : Int32) (0 : Int32) (0 : Int32) (0 : Int32) (0 : Int32) (0 : Int32) (0 : Int32) h24 n0 Z24 V24 g_b24) hZ (hw _ (List.mem_of_getElem? (i := 4) rfl)) (hw _ (List.mem_of_getElem? (i := 3) rfl)) (by decide) (by decide)) (g := (mkF m 71 #[.val (.int p1), .val (.int p2), .val (.int p3), .val (.int p4), .val (.int p5), .val (.int v1), .val (.ref b2), .val (.ref b24), .unset, .unset, .unset, .unset, .unset, .unset, .unset, .unset] [(.int p1), (.int (0 : Int32)), (.ref b24)])) rfl (by rw [hml]; rfl) (argsL := [(.ref b24), (.int (0 : Int32)), (.int p1)]) (rest := []) (lenOf own_pd0 rfl) rfl (by show 2 * 0 + _ ≤ _; exact Nat.le_of_eq rfl) (hb hby at_71) (fun _ _ => ⟨rfl, e24, (by decide : 2 + 0 ≤ _), (by decide : 17 + 0 ≤ _)⟩)
  dsimp only [Pt.U, Pt.locs, Pt.cells, Pt.slots] at X26 l26 y26 z26 st26 hQ26
  rw [l26, y26, z26] at X26
  obtain ⟨rfl, Nq26, Kq26, Vq26⟩ := hQ26
  have N26 := Fr.app N22 Nq26
  have Z26 : n0 ≤ T26.heap.size := Nat.le_trans Z24 Kq26.1
  obtain ⟨v27, hv_v27⟩ : ∃ z : Int32, z = ((p1.toInt8.toInt32).toInt8.toInt32) := ⟨_, rfl⟩
  rw [← hv_v27] at Vq26
  obtain ⟨v28, hv_v28⟩ : ∃ z : Int32, z = ((((p1.toUInt32 >>> ((8 : Int32) &&& 31).toUInt32).toInt32).toInt8.toInt32).toInt8.toInt32) := ⟨_, rfl⟩
  rw [← hv_v28] at Vq26
  obtain ⟨v29, hv_v29⟩ : ∃ z : Int32, z = ((((p1.toUInt32 >>> ((16 : Int32) &&& 31).toUInt32).toInt32).toInt8.toInt32).toInt8.toInt32) := ⟨_, rfl⟩
  rw [← hv_v29] at Vq26
  obtain ⟨v30, hv_v30⟩ : ∃ z : Int32, z = ((((p1.toUInt32 >>> ((24 : Int32) &&& 31).toUInt32).toInt32).toInt8.toInt32).toInt8.toInt32) := ⟨_, rfl⟩
  rw [← hv_v30] at Vq26
  obtain ⟨_, _, ⟨T31, L31, k31, n31⟩, -, X31, ⟨Lc31, hQ31, l31, y31, z31⟩, st31⟩ := Jvm.LawKit.callS X26 hx (y := (⟨"io/subjectwire/auth/Crc16OfPinLaw", "put", "([BII)V"⟩ : MethodName)) hown (mvT hZ (hw _ (List.mem_of_getElem? (i := 1) rfl))) (mvT hZ (hw _ (List.mem_of_getElem? (i := 2) rfl))) (mvT hZ (hw _ (List.mem_of_getElem? (i := 3) rfl))) (mvT hZ (hw _ (List.mem_of_getElem? (i := 4) rfl))) (by decide) (backOf (W := 0) (rmPUT4 l Z a0 hw [] b24 p2 k24 v27 v28 v29 v30 (0 : Int32) (0 : Int32) (0 : Int32) (0 : Int32) T26.heap n0 Z26 Vq26 g_b24) hZ (hw _ (List.mem_of_getElem? (i := 4) rfl)) (hw _ (List.mem_of_getElem? (i := 3) rfl)) (by decide) (by decide)) (g := (mkF m 78 #[.val (.int p1), .val (.int p2), .val (.int p3), .val (.int p4), .val (.int p5), .val (.int v1), .val (.ref b2), .val (.ref b24), .unset, .unset, .unset, .unset, .unset, .unset, .unset, .unset] [(.int p2), (.int (4 : Int32)), (.ref b24)])) rfl (by rw [hml]; rfl) (argsL := [(.ref b24), (.int (4 : Int32)), (.int p2)]) (rest := []) (lenOf own_pd0 rfl) rfl (by show 2 * 0 + _ ≤ _; exact Nat.le_of_eq rfl) (hb hby at_78) (fun _ _ => ⟨rfl, rfl, (by decide : 2 + 0 ≤ _), (by decide : 17 + 0 ≤ _)⟩)
  dsimp only [Pt.U, Pt.locs, Pt.cells, Pt.slots] at X31 l31 y31 z31 st31 hQ31
  rw [l31, y31, z31] at X31
  obtain ⟨rfl, Nq31, Kq31, Vq31⟩ := hQ31
  have N31 := Fr.app N26 Nq31
  have Z31 : n0 ≤ T31.heap.size := Nat.le_trans Z26 Kq31.1
  obtain ⟨v32, hv_v32⟩ : ∃ z : Int32, z = ((p2.toInt8.toInt32).toInt8.toInt32) := ⟨_, rfl⟩
  rw [← hv_v32] at Vq31
  obtain ⟨v33, hv_v33⟩ : ∃ z : Int32, z = ((((p2.toUInt32 >>> ((8 : Int32) &&& 31).toUInt32).toInt32).toInt8.toInt32).toInt8.toInt32) := ⟨_, rfl⟩
  rw [← hv_v33] at Vq31
  obtain ⟨v34, hv_v34⟩ : ∃ z : Int32, z = ((((p2.toUInt32 >>> ((16 : Int32) &&& 31).toUInt32).toInt32).toInt8.toInt32).toInt8.toInt32) := ⟨_, rfl⟩
  rw [← hv_v34] at Vq31
  obtain ⟨v35, hv_v35⟩ : ∃ z : Int32, z = ((((p2.toUInt32 >>> ((24 : Int32) &&& 31).toUInt32).toInt32).toInt8.toInt32).toInt8.toInt32) := ⟨_, rfl⟩
  rw [← hv_v35] at Vq31
  obtain ⟨T36, h36, k36, X36, e36, E36, A36, st36⟩ := newP X31 hx hZ (hw _ (List.mem_of_getElem? (i := 0) rfl)) rfl (g := (mkF m 83 #[.val (.int p1), .val (.int p2), .val (.int p3), .val (.int p4), .val (.int p5), .val (.int v1), .val (.ref b2), .val (.ref b24), .unset, .unset, .unset, .unset, .unset, .unset, .unset, .unset] [(.int (8 : Int32))])) rfl (hb hby at_83) rfl (by decide) (cap := 8) (by decide) (by decide) (by decide) (by decide)
  obtain ⟨b36, g36⟩ : ∃ z, z = T31.heap.size := ⟨_, rfl⟩
  rw [← g36] at A36 st36
  have f38 := (((V22.ext E24).keep Kq26 (ninS ne25 nin0)).keep Kq31 (ninS ne25 nin0))
  have ne37 : b2 ≠ b36 := Nat.ne_of_lt (Nat.lt_of_lt_of_le f38.lt (Nat.le_of_eq g36.symm))
  have ne39 : b24 ≠ b36 := Nat.ne_of_lt (Nat.lt_of_lt_of_le Vq31.lt (Nat.le_of_eq g36.symm))
  have g_b36 : n0 ≤ b36 := Nat.le_trans Z31 (Nat.le_of_eq g36.symm)
  have Z36 : n0 ≤ h36.size := Nat.le_trans Z31 E36.1
  have V36 : Arv Z h36 b36 k36 .byte (8 : Int32) [(.int (0 : Int32)), (.int (0 : Int32)), (.int (0 : Int32)), (.int (0 : Int32)), (.int (0 : Int32)), (.int (0 : Int32)), (.int (0 : Int32)), (.int (0 : Int32))] (.int (0 : Int32)) := (Arv.new A36 (by decide)).pad (pad_rep [] (.int (0 : Int32)) 8)
  have go40 : own_go p e below (s₁.setTop (entryFrame m #[(.int p1), (.int p2), (.int p3), (.int p4), (.int p5)] maxLocals)) (T36.setTop (mkF m 90 #[.val (.int p1), .val (.int p2), .val (.int p3), .val (.int p4), .val (.int p5), .val (.int v1), .val (.ref b2), .val (.ref b24), .val (.ref b36), .unset, .unset, .unset, .unset, .unset, .unset, .unset] [(.int (0 : Int32)), (.ref b36)])) := by
    intro ttx ktx
    refine go23 ttx ?_
    show Steps p.tables e below (T22.setTop (mkF m 63 #[.val (.int p1), .val (.int p2), .val (.int p3), .val (.int p4), .val (.int p5), .val (.int v1), .val (.ref b2), .unset, .unset, .unset, .unset, .unset, .unset, .unset, .unset, .unset] [(.int (8 : Int32))])) _
    refine st24 _ ?_
    show Steps p.tables e below (T24.setTop (mkF m 65 #[.val (.int p1), .val (.int p2), .val (.int p3), .val (.int p4), .val (.int p5), .val (.int v1), .val (.ref b2), .unset, .unset, .unset, .unset, .unset, .unset, .unset, .unset, .unset] [(.ref b24)])) _
    refine XS.astore X24.here hx rfl (hb hby at_65) rfl rfl (l' := #[.val (.int p1), .val (.int p2), .val (.int p3), .val (.int p4), .val (.int p5), .val (.int v1), .val (.ref b2), .val (.ref b24), .unset, .unset, .unset, .unset, .unset, .unset, .unset, .unset]) rfl ?_
    show Steps p.tables e below (T24.setTop (mkF m 67 #[.val (.int p1), .val (.int p2), .val (.int p3), .val (.int p4), .val (.int p5), .val (.int v1), .val (.ref b2), .val (.ref b24), .unset, .unset, .unset, .unset, .unset, .unset, .unset, .unset] [])) _
    refine XS.aload X24.here hx rfl (hb hby at_67) rfl rfl ?_
    show Steps p.tables e below (T24.setTop (mkF m 69 #[.val (.int p1), .val (.int p2), .val (.int p3), .val (.int p4), .val (.int p5), .val (.int v1), .val (.ref b2), .val (.ref b24), .unset, .unset, .unset, .unset, .unset, .unset, .unset, .unset] [(.ref b24)])) _
    refine XS.iconst X24.here hx rfl (hb hby at_69) ?_
    show Steps p.tables e below (T24.setTop (mkF m 70 #[.val (.int p1), .val (.int p2), .val (.int p3), .val (.int p4), .val (.int p5), .val (.int v1), .val (.ref b2), .val (.ref b24), .unset, .unset, .unset, .unset, .unset, .unset, .unset, .unset] [(.int (0 : Int32)), (.ref b24)])) _
    refine XS.iloadN X24.here hx rfl (hb hby at_70) rfl ?_
    show Steps p.tables e below (T24.setTop (mkF m 71 #[.val (.int p1), .val (.int p2), .val (.int p3), .val (.int p4), .val (.int p5), .val (.int v1), .val (.ref b2), .val (.ref b24), .unset, .unset, .unset, .unset, .unset, .unset, .unset, .unset] [(.int p1), (.int (0 : Int32)), (.ref b24)])) _
    refine st26 _ ?_
    show Steps p.tables e below (T26.setTop (mkF m 74 #[.val (.int p1), .val (.int p2), .val (.int p3), .val (.int p4), .val (.int p5), .val (.int v1), .val (.ref b2), .val (.ref b24), .unset, .unset, .unset, .unset, .unset, .unset, .unset, .unset] [])) _
    refine XS.aload X26.here hx rfl (hb hby at_74) rfl rfl ?_
    show Steps p.tables e below (T26.setTop (mkF m 76 #[.val (.int p1), .val (.int p2), .val (.int p3), .val (.int p4), .val (.int p5), .val (.int v1), .val (.ref b2), .val (.ref b24), .unset, .unset, .unset, .unset, .unset, .unset, .unset, .unset] [(.ref b24)])) _
    refine XS.iconst X26.here hx rfl (hb hby at_76) ?_
    show Steps p.tables e below (T26.setTop (mkF m 77 #[.val (.int p1), .val (.int p2), .val (.int p3), .val (.int p4), .val (.int p5), .val (.int v1), .val (.ref b2), .val (.ref b24), .unset, .unset, .unset, .unset, .unset, .unset, .unset, .unset] [(.int (4 : Int32)), (.ref b24)])) _
    refine XS.iloadN X26.here hx rfl (hb hby at_77) rfl ?_
    show Steps p.tables e below (T26.setTop (mkF m 78 #[.val (.int p1), .val (.int p2), .val (.int p3), .val (.int p4), .val (.int p5), .val (.int v1), .val (.ref b2), .val (.ref b24), .unset, .unset, .unset, .unset, .unset, .unset, .unset, .unset] [(.int p2), (.int (4 : Int32)), (.ref b24)])) _
    refine st31 _ ?_
    show Steps p.tables e below (T31.setTop (mkF m 81 #[.val (.int p1), .val (.int p2), .val (.int p3), .val (.int p4), .val (.int p5), .val (.int v1), .val (.ref b2), .val (.ref b24), .unset, .unset, .unset, .unset, .unset, .unset, .unset, .unset] [])) _
    refine XS.bipush X31.here hx rfl (hb hby at_81) ?_
    show Steps p.tables e below (T31.setTop (mkF m 83 #[.val (.int p1), .val (.int p2), .val (.int p3), .val (.int p4), .val (.int p5), .val (.int v1), .val (.ref b2), .val (.ref b24), .unset, .unset, .unset, .unset, .unset, .unset, .unset, .unset] [(.int (8 : Int32))])) _
    refine st36 _ ?_
    show Steps p.tables e below (T36.setTop (mkF m 85 #[.val (.int p1), .val (.int p2), .val (.int p3), .val (.int p4), .val (.int p5), .val (.int v1), .val (.ref b2), .val (.ref b24), .unset, .unset, .unset, .unset, .unset, .unset, .unset, .unset] [(.ref b36)])) _
    refine XS.astore X36.here hx rfl (hb hby at_85) rfl rfl (l' := #[.val (.int p1), .val (.int p2), .val (.int p3), .val (.int p4), .val (.int p5), .val (.int v1), .val (.ref b2), .val (.ref b24), .val (.ref b36), .unset, .unset, .unset, .unset, .unset, .unset, .unset]) rfl ?_
    show Steps p.tables e below (T36.setTop (mkF m 87 #[.val (.int p1), .val (.int p2), .val (.int p3), .val (.int p4), .val (.int p5), .val (.int v1), .val (.ref b2), .val (.ref b24), .val (.ref b36), .unset, .unset, .unset, .unset, .unset, .unset, .unset] [])) _
    refine XS.aload X36.here hx rfl (hb hby at_87) rfl rfl ?_
    show Steps p.tables e below (T36.setTop (mkF m 89 #[.val (.int p1), .val (.int p2), .val (.int p3), .val (.int p4), .val (.int p5), .val (.int v1), .val (.ref b2), .val (.ref b24), .val (.ref b36), .unset, .unset, .unset, .unset, .unset, .unset, .unset] [(.ref b36)])) _
    refine XS.iconst X36.here hx rfl (hb hby at_89) ?_
    exact ktx
  obtain ⟨_, _, ⟨T41, L41, k41, n41⟩, -, X41, ⟨Lc41, hQ41, l41, y41, z41⟩, st41⟩ := Jvm.LawKit.callS X36 hx (y := (⟨"io/subjectwire/auth/Crc16OfPinLaw", "put", "([BII)V"⟩ : MethodName)) hown (mvT hZ (hw _ (List.mem_of_getElem? (i := 1) rfl))) (mvT hZ (hw _ (List.mem_of_getElem? (i := 2) rfl))) (mvT hZ (hw _ (List.mem_of_getElem? (i := 3) rfl))) (mvT hZ (hw _ (List.mem_of_getElem? (i := 4) rfl))) (by decide) (backOf (W := 0) (rmPUT0 l Z a0 hw [] b36 p3 k36 (0 : Int32) (0 : Int32) (0 : Int32) (0 : Int32) (0 : Int32) (0 : Int32) (0 : Int32) (0 : Int32) h36 n0 Z36 V36 g_b36) hZ (hw _ (List.mem_of_getElem? (i := 4) rfl)) (hw _ (List.mem_of_getElem? (i := 3) rfl)) (by decide) (by decide)) (g := (mkF m 91 #[.val (.int p1), .val (.int p2), .val (.int p3), .val (.int p4), .val (.int p5), .val (.int v1), .val (.ref b2), .val (.ref b24), .val (.ref b36), .unset, .unset, .unset, .unset, .unset, .unset, .unset] [(.int p3), (.int (0 : Int32)), (.ref b36)])) rfl (by rw [hml]; rfl) (argsL := [(.ref b36), (.int (0 : Int32)), (.int p3)]) (rest := []) (lenOf own_pd0 rfl) rfl (by show 2 * 0 + _ ≤ _; exact Nat.le_of_eq rfl) (hb hby at_91) (fun _ _ => ⟨rfl, e36, (by decide : 3 + 0 ≤ _), (by decide : 25 + 0 ≤ _)⟩)
  dsimp only [Pt.U, Pt.locs, Pt.cells, Pt.slots] at X41 l41 y41 z41 st41 hQ41
  rw [l41, y41, z41] at X41
  obtain ⟨rfl, Nq41, Kq41, Vq41⟩ := hQ41
  have N41 := Fr.app N31 Nq41
  have Z41 : n0 ≤ T41.heap.size := Nat.le_trans Z36 Kq41.1
  obtain ⟨v42, hv_v42⟩ : ∃ z : Int32, z = ((p3.toInt8.toInt32).toInt8.toInt32) := ⟨_, rfl⟩
  rw [← hv_v42] at Vq41
  obtain ⟨v43, hv_v43⟩ : ∃ z : Int32, z = ((((p3.toUInt32 >>> ((8 : Int32) &&& 31).toUInt32).toInt32).toInt8.toInt32).toInt8.toInt32) := ⟨_, rfl⟩
  rw [← hv_v43] at Vq41
  obtain ⟨v44, hv_v44⟩ : ∃ z : Int32, z = ((((p3.toUInt32 >>> ((16 : Int32) &&& 31).toUInt32).toInt32).toInt8.toInt32).toInt8.toInt32) := ⟨_, rfl⟩
  rw [← hv_v44] at Vq41
  obtain ⟨v45, hv_v45⟩ : ∃ z : Int32, z = ((((p3.toUInt32 >>> ((24 : Int32) &&& 31).toUInt32).toInt32).toInt8.toInt32).toInt8.toInt32) := ⟨_, rfl⟩
  rw [← hv_v45] at Vq41
  obtain ⟨_, _, ⟨T46, L46, k46, n46⟩, -, X46, ⟨Lc46, hQ46, l46, y46, z46⟩, st46⟩ := Jvm.LawKit.callS X41 hx (y := (⟨"io/subjectwire/auth/Crc16OfPinLaw", "put", "([BII)V"⟩ : MethodName)) hown (mvT hZ (hw _ (List.mem_of_getElem? (i := 1) rfl))) (mvT hZ (hw _ (List.mem_of_getElem? (i := 2) rfl))) (mvT hZ (hw _ (List.mem_of_getElem? (i := 3) rfl))) (mvT hZ (hw _ (List.mem_of_getElem? (i := 4) rfl))) (by decide) (backOf (W := 0) (rmPUT4 l Z a0 hw [] b36 p4 k36 v42 v43 v44 v45 (0 : Int32) (0 : Int32) (0 : Int32) (0 : Int32) T41.heap n0 Z41 Vq41 g_b36) hZ (hw _ (List.mem_of_getElem? (i := 4) rfl)) (hw _ (List.mem_of_getElem? (i := 3) rfl)) (by decide) (by decide)) (g := (mkF m 98 #[.val (.int p1), .val (.int p2), .val (.int p3), .val (.int p4), .val (.int p5), .val (.int v1), .val (.ref b2), .val (.ref b24), .val (.ref b36), .unset, .unset, .unset, .unset, .unset, .unset, .unset] [(.int p4), (.int (4 : Int32)), (.ref b36)])) rfl (by rw [hml]; rfl) (argsL := [(.ref b36), (.int (4 : Int32)), (.int p4)]) (rest := []) (lenOf own_pd0 rfl) rfl (by show 2 * 0 + _ ≤ _; exact Nat.le_of_eq rfl) (hb hby at_98) (fun _ _ => ⟨rfl, rfl, (by decide : 3 + 0 ≤ _), (by decide : 25 + 0 ≤ _)⟩)
  dsimp only [Pt.U, Pt.locs, Pt.cells, Pt.slots] at X46 l46 y46 z46 st46 hQ46
  rw [l46, y46, z46] at X46
  obtain ⟨rfl, Nq46, Kq46, Vq46⟩ := hQ46
  have N46 := Fr.app N41 Nq46
  have Z46 : n0 ≤ T46.heap.size := Nat.le_trans Z41 Kq46.1
  obtain ⟨v47, hv_v47⟩ : ∃ z : Int32, z = ((p4.toInt8.toInt32).toInt8.toInt32) := ⟨_, rfl⟩
  rw [← hv_v47] at Vq46
  obtain ⟨v48, hv_v48⟩ : ∃ z : Int32, z = ((((p4.toUInt32 >>> ((8 : Int32) &&& 31).toUInt32).toInt32).toInt8.toInt32).toInt8.toInt32) := ⟨_, rfl⟩
  rw [← hv_v48] at Vq46
  obtain ⟨v49, hv_v49⟩ : ∃ z : Int32, z = ((((p4.toUInt32 >>> ((16 : Int32) &&& 31).toUInt32).toInt32).toInt8.toInt32).toInt8.toInt32) := ⟨_, rfl⟩
  rw [← hv_v49] at Vq46
  obtain ⟨v50, hv_v50⟩ : ∃ z : Int32, z = ((((p4.toUInt32 >>> ((24 : Int32) &&& 31).toUInt32).toInt32).toInt8.toInt32).toInt8.toInt32) := ⟨_, rfl⟩
  rw [← hv_v50] at Vq46
  obtain ⟨T51, h51, k51, X51, e51, E51, A51, st51⟩ := newP X46 hx hZ (hw _ (List.mem_of_getElem? (i := 0) rfl)) rfl (g := (mkF m 103 #[.val (.int p1), .val (.int p2), .val (.int p3), .val (.int p4), .val (.int p5), .val (.int v1), .val (.ref b2), .val (.ref b24), .val (.ref b36), .unset, .unset, .unset, .unset, .unset, .unset, .unset] [(.int (8 : Int32))])) rfl (hb hby at_103) rfl (by decide) (cap := 8) (by decide) (by decide) (by decide) (by decide)
  obtain ⟨b51, g51⟩ : ∃ z, z = T46.heap.size := ⟨_, rfl⟩
  rw [← g51] at A51 st51
  have f53 := (((f38.ext E36).keep Kq41 (ninS ne37 nin0)).keep Kq46 (ninS ne37 nin0))
  have ne52 : b2 ≠ b51 := Nat.ne_of_lt (Nat.lt_of_lt_of_le f53.lt (Nat.le_of_eq g51.symm))
  have f55 := (((Vq31.ext E36).keep Kq41 (ninS ne39 nin0)).keep Kq46 (ninS ne39 nin0))
  have ne54 : b24 ≠ b51 := Nat.ne_of_lt (Nat.lt_of_lt_of_le f55.lt (Nat.le_of_eq g51.symm))
  have ne56 : b36 ≠ b51 := Nat.ne_of_lt (Nat.lt_of_lt_of_le Vq46.lt (Nat.le_of_eq g51.symm))
  have g_b51 : n0 ≤ b51 := Nat.le_trans Z46 (Nat.le_of_eq g51.symm)
  have Z51 : n0 ≤ h51.size := Nat.le_trans Z46 E51.1
  have V51 : Arv Z h51 b51 k51 .byte (8 : Int32) [(.int (0 : Int32)), (.int (0 : Int32)), (.int (0 : Int32)), (.int (0 : Int32)), (.int (0 : Int32)), (.int (0 : Int32)), (.int (0 : Int32)), (.int (0 : Int32))] (.int (0 : Int32)) := (Arv.new A51 (by decide)).pad (pad_rep [] (.int (0 : Int32)) 8)
  have f57 := (f55.ext E51)
  obtain ⟨cl58, Ar58, q58, S58, M58, H58, G58⟩ := id f57
  have hin58 : ¬ ((0 : Int32) < 0 ∨ cl58.slots.size ≤ ((0 : Int32)).toNatClampNeg) := inb_of S58 ⟨by decide, by decide⟩
  have hat58 : cl58.slots[((0 : Int32)).toNatClampNeg]? = some (.int v27) := Has.at H58 hin58 rfl
  have go59 : own_go p e below (s₁.setTop (entryFrame m #[(.int p1), (.int p2), (.int p3), (.int p4), (.int p5)] maxLocals)) (T51.setTop (mkF m 116 #[.val (.int p1), .val (.int p2), .val (.int p3), .val (.int p4), .val (.int p5), .val (.int v1), .val (.ref b2), .val (.ref b24), .val (.ref b36), .val (.ref b51), .unset, .unset, .unset, .unset, .unset, .unset] [(.ref b36), (.int v27), (.int (0 : Int32)), (.ref b51)])) := by
    intro ttx ktx
    refine go40 ttx ?_
    show Steps p.tables e below (T36.setTop (mkF m 90 #[.val (.int p1), .val (.int p2), .val (.int p3), .val (.int p4), .val (.int p5), .val (.int v1), .val (.ref b2), .val (.ref b24), .val (.ref b36), .unset, .unset, .unset, .unset, .unset, .unset, .unset] [(.int (0 : Int32)), (.ref b36)])) _
    refine XS.iloadN X36.here hx rfl (hb hby at_90) rfl ?_
    show Steps p.tables e below (T36.setTop (mkF m 91 #[.val (.int p1), .val (.int p2), .val (.int p3), .val (.int p4), .val (.int p5), .val (.int v1), .val (.ref b2), .val (.ref b24), .val (.ref b36), .unset, .unset, .unset, .unset, .unset, .unset, .unset] [(.int p3), (.int (0 : Int32)), (.ref b36)])) _
    refine st41 _ ?_
    show Steps p.tables e below (T41.setTop (mkF m 94 #[.val (.int p1), .val (.int p2), .val (.int p3), .val (.int p4), .val (.int p5), .val (.int v1), .val (.ref b2), .val (.ref b24), .val (.ref b36), .unset, .unset, .unset, .unset, .unset, .unset, .unset] [])) _
    refine XS.aload X41.here hx rfl (hb hby at_94) rfl rfl ?_
    show Steps p.tables e below (T41.setTop (mkF m 96 #[.val (.int p1), .val (.int p2), .val (.int p3), .val (.int p4), .val (.int p5), .val (.int v1), .val (.ref b2), .val (.ref b24), .val (.ref b36), .unset, .unset, .unset, .unset, .unset, .unset, .unset] [(.ref b36)])) _
    refine XS.iconst X41.here hx rfl (hb hby at_96) ?_
    show Steps p.tables e below (T41.setTop (mkF m 97 #[.val (.int p1), .val (.int p2), .val (.int p3), .val (.int p4), .val (.int p5), .val (.int v1), .val (.ref b2), .val (.ref b24), .val (.ref b36), .unset, .unset, .unset, .unset, .unset, .unset, .unset] [(.int (4 : Int32)), (.ref b36)])) _
    refine XS.iloadN X41.here hx rfl (hb hby at_97) rfl ?_
    show Steps p.tables e below (T41.setTop (mkF m 98 #[.val (.int p1), .val (.int p2), .val (.int p3), .val (.int p4), .val (.int p5), .val (.int v1), .val (.ref b2), .val (.ref b24), .val (.ref b36), .unset, .unset, .unset, .unset, .unset, .unset, .unset] [(.int p4), (.int (4 : Int32)), (.ref b36)])) _
    refine st46 _ ?_
    show Steps p.tables e below (T46.setTop (mkF m 101 #[.val (.int p1), .val (.int p2), .val (.int p3), .val (.int p4), .val (.int p5), .val (.int v1), .val (.ref b2), .val (.ref b24), .val (.ref b36), .unset, .unset, .unset, .unset, .unset, .unset, .unset] [])) _
    refine XS.bipush X46.here hx rfl (hb hby at_101) ?_
    show Steps p.tables e below (T46.setTop (mkF m 103 #[.val (.int p1), .val (.int p2), .val (.int p3), .val (.int p4), .val (.int p5), .val (.int v1), .val (.ref b2), .val (.ref b24), .val (.ref b36), .unset, .unset, .unset, .unset, .unset, .unset, .unset] [(.int (8 : Int32))])) _
    refine st51 _ ?_
    show Steps p.tables e below (T51.setTop (mkF m 105 #[.val (.int p1), .val (.int p2), .val (.int p3), .val (.int p4), .val (.int p5), .val (.int v1), .val (.ref b2), .val (.ref b24), .val (.ref b36), .unset, .unset, .unset, .unset, .unset, .unset, .unset] [(.ref b51)])) _
    refine XS.astore X51.here hx rfl (hb hby at_105) rfl rfl (l' := #[.val (.int p1), .val (.int p2), .val (.int p3), .val (.int p4), .val (.int p5), .val (.int v1), .val (.ref b2), .val (.ref b24), .val (.ref b36), .val (.ref b51), .unset, .unset, .unset, .unset, .unset, .unset]) rfl ?_
    show Steps p.tables e below (T51.setTop (mkF m 107 #[.val (.int p1), .val (.int p2), .val (.int p3), .val (.int p4), .val (.int p5), .val (.int v1), .val (.ref b2), .val (.ref b24), .val (.ref b36), .val (.ref b51), .unset, .unset, .unset, .unset, .unset, .unset] [])) _
    refine XS.aload X51.here hx rfl (hb hby at_107) rfl rfl ?_
    show Steps p.tables e below (T51.setTop (mkF m 109 #[.val (.int p1), .val (.int p2), .val (.int p3), .val (.int p4), .val (.int p5), .val (.int v1), .val (.ref b2), .val (.ref b24), .val (.ref b36), .val (.ref b51), .unset, .unset, .unset, .unset, .unset, .unset] [(.ref b51)])) _
    refine XS.iconst X51.here hx rfl (hb hby at_109) ?_
    show Steps p.tables e below (T51.setTop (mkF m 110 #[.val (.int p1), .val (.int p2), .val (.int p3), .val (.int p4), .val (.int p5), .val (.int v1), .val (.ref b2), .val (.ref b24), .val (.ref b36), .val (.ref b51), .unset, .unset, .unset, .unset, .unset, .unset] [(.int (0 : Int32)), (.ref b51)])) _
    refine XS.aload X51.here hx rfl (hb hby at_110) rfl rfl ?_
    show Steps p.tables e below (T51.setTop (mkF m 112 #[.val (.int p1), .val (.int p2), .val (.int p3), .val (.int p4), .val (.int p5), .val (.int v1), .val (.ref b2), .val (.ref b24), .val (.ref b36), .val (.ref b51), .unset, .unset, .unset, .unset, .unset, .unset] [(.ref b24), (.int (0 : Int32)), (.ref b51)])) _
    refine XS.iconst X51.here hx rfl (hb hby at_112) ?_
    show Steps p.tables e below (T51.setTop (mkF m 113 #[.val (.int p1), .val (.int p2), .val (.int p3), .val (.int p4), .val (.int p5), .val (.int v1), .val (.ref b2), .val (.ref b24), .val (.ref b36), .val (.ref b51), .unset, .unset, .unset, .unset, .unset, .unset] [(.int (0 : Int32)), (.ref b24), (.int (0 : Int32)), (.ref b51)])) _
    refine X51.baloadBytes hx (j := (0 : Int32)) (v := (.int v27)) (own_hp e51 Ar58.1) (State.isArrayOf_alike hZ.alike Ar58.2.1) Ar58.2.2 hin58 hat58 (g := (mkF m 113 #[.val (.int p1), .val (.int p2), .val (.int p3), .val (.int p4), .val (.int p5), .val (.int v1), .val (.ref b2), .val (.ref b24), .val (.ref b36), .val (.ref b51), .unset, .unset, .unset, .unset, .unset, .unset] [(.int (0 : Int32)), (.ref b24), (.int (0 : Int32)), (.ref b51)])) rfl rfl (hb hby at_113) _ ?_
    show Steps p.tables e below (T51.setTop (mkF m 114 #[.val (.int p1), .val (.int p2), .val (.int p3), .val (.int p4), .val (.int p5), .val (.int v1), .val (.ref b2), .val (.ref b24), .val (.ref b36), .val (.ref b51), .unset, .unset, .unset, .unset, .unset, .unset] [(.int v27), (.int (0 : Int32)), (.ref b51)])) _
    refine XS.aload X51.here hx rfl (hb hby at_114) rfl rfl ?_
    exact ktx
  have f60 := (Vq46.ext E51)
  obtain ⟨cl61, Ar61, q61, S61, M61, H61, G61⟩ := id f60
  have hin61 : ¬ ((0 : Int32) < 0 ∨ cl61.slots.size ≤ ((0 : Int32)).toNatClampNeg) := inb_of S61 ⟨by decide, by decide⟩
  have hat61 : cl61.slots[((0 : Int32)).toNatClampNeg]? = some (.int v42) := Has.at H61 hin61 rfl
  obtain ⟨cl62, Ar62, q62, S62, M62, H62, G62⟩ := id V51
  have hin62 : ¬ ((0 : Int32) < 0 ∨ cl62.slots.size ≤ ((0 : Int32)).toNatClampNeg) := inb_of S62 ⟨by decide, by decide⟩
  obtain ⟨T63, h63, X63, e63, W63, st63⟩ := stB X51 hx hZ e51 Ar62 (j := (0 : Int32)) hin62 (g := (mkF m 120 #[.val (.int p1), .val (.int p2), .val (.int p3), .val (.int p4), .val (.int p5), .val (.int v1), .val (.ref b2), .val (.ref b24), .val (.ref b36), .val (.ref b51), .unset, .unset, .unset, .unset, .unset, .unset] [(.int ((v27 ^^^ v42).toInt8.toInt32)), (.int (0 : Int32)), (.ref b51)])) rfl rfl (hb hby at_120)
  have Z63 : n0 ≤ h63.size := Nat.le_trans Z51 (Nat.le_of_eq W63.size.symm)
  have N63 := Fr.snoc X63 N46 g_b51
  have V63 : Arv Z h63 b51 k51 .byte (8 : Int32) [(.int (((v27 ^^^ v42).toInt8.toInt32).toInt8.toInt32)), (.int (0 : Int32)), (.int (0 : Int32)), (.int (0 : Int32)), (.int (0 : Int32)), (.int (0 : Int32)), (.int (0 : Int32)), (.int (0 : Int32))] (.int (0 : Int32)) := Arv.set Ar62 q62 S62 M62 H62 G62 (fits_nar_byte _) W63 0 rfl (Nat.le_of_ble_eq_true rfl)
  obtain ⟨v64, hv_v64⟩ : ∃ z : Int32, z = (((v27 ^^^ v42).toInt8.toInt32).toInt8.toInt32) := ⟨_, rfl⟩
  rw [← hv_v64] at V63
  have f65 := (f57.other W63 ne54)
  obtain ⟨cl66, Ar66, q66, S66, M66, H66, G66⟩ := id f65
  have hin66 : ¬ ((1 : Int32) < 0 ∨ cl66.slots.size ≤ ((1 : Int32)).toNatClampNeg) := inb_of S66 ⟨by decide, by decide⟩
  have hat66 : cl66.slots[((1 : Int32)).toNatClampNeg]? = some (.int v28) := Has.at H66 hin66 rfl
  have f67 := (f60.other W63 ne56)
  obtain ⟨cl68, Ar68, q68, S68, M68, H68, G68⟩ := id f67
  have hin68 : ¬ ((1 : Int32) < 0 ∨ cl68.slots.size ≤ ((1 : Int32)).toNatClampNeg) := inb_of S68 ⟨by decide, by decide⟩
  have hat68 : cl68.slots[((1 : Int32)).toNatClampNeg]? = some (.int v43) := Has.at H68 hin68 rfl
  have go69 : own_go p e below (s₁.setTop (entryFrame m #[(.int p1), (.int p2), (.int p3), (.int p4), (.int p5)] maxLocals)) (T63.setTop (mkF m 134 #[.val (.int p1), .val (.int p2), .val (.int p3), .val (.int p4), .val (.int p5), .val (.int v1), .val (.ref b2), .val (.ref b24), .val (.ref b36), .val (.ref b51), .unset, .unset, .unset, .unset, .unset, .unset] [(.int ((v28 ^^^ v43).toInt8.toInt32)), (.int (1 : Int32)), (.ref b51)])) := by
    intro ttx ktx
    refine go59 ttx ?_
    show Steps p.tables e below (T51.setTop (mkF m 116 #[.val (.int p1), .val (.int p2), .val (.int p3), .val (.int p4), .val (.int p5), .val (.int v1), .val (.ref b2), .val (.ref b24), .val (.ref b36), .val (.ref b51), .unset, .unset, .unset, .unset, .unset, .unset] [(.ref b36), (.int v27), (.int (0 : Int32)), (.ref b51)])) _
    refine XS.iconst X51.here hx rfl (hb hby at_116) ?_
    show Steps p.tables e below (T51.setTop (mkF m 117 #[.val (.int p1), .val (.int p2), .val (.int p3), .val (.int p4), .val (.int p5), .val (.int v1), .val (.ref b2), .val (.ref b24), .val (.ref b36), .val (.ref b51), .unset, .unset, .unset, .unset, .unset, .unset] [(.int (0 : Int32)), (.ref b36), (.int v27), (.int (0 : Int32)), (.ref b51)])) _
    refine X51.baloadBytes hx (j := (0 : Int32)) (v := (.int v42)) (own_hp e51 Ar61.1) (State.isArrayOf_alike hZ.alike Ar61.2.1) Ar61.2.2 hin61 hat61 (g := (mkF m 117 #[.val (.int p1), .val (.int p2), .val (.int p3), .val (.int p4), .val (.int p5), .val (.int v1), .val (.ref b2), .val (.ref b24), .val (.ref b36), .val (.ref b51), .unset, .unset, .unset, .unset, .unset, .unset] [(.int (0 : Int32)), (.ref b36), (.int v27), (.int (0 : Int32)), (.ref b51)])) rfl rfl (hb hby at_117) _ ?_
    show Steps p.tables e below (T51.setTop (mkF m 118 #[.val (.int p1), .val (.int p2), .val (.int p3), .val (.int p4), .val (.int p5), .val (.int v1), .val (.ref b2), .val (.ref b24), .val (.ref b36), .val (.ref b51), .unset, .unset, .unset, .unset, .unset, .unset] [(.int v42), (.int v27), (.int (0 : Int32)), (.ref b51)])) _
    refine XS.ixor X51.here hx rfl (hb hby at_118) rfl ?_
    show Steps p.tables e below (T51.setTop (mkF m 119 #[.val (.int p1), .val (.int p2), .val (.int p3), .val (.int p4), .val (.int p5), .val (.int v1), .val (.ref b2), .val (.ref b24), .val (.ref b36), .val (.ref b51), .unset, .unset, .unset, .unset, .unset, .unset] [(.int (v27 ^^^ v42)), (.int (0 : Int32)), (.ref b51)])) _
    refine XS.i2b X51.here hx rfl (hb hby at_119) rfl ?_
    show Steps p.tables e below (T51.setTop (mkF m 120 #[.val (.int p1), .val (.int p2), .val (.int p3), .val (.int p4), .val (.int p5), .val (.int v1), .val (.ref b2), .val (.ref b24), .val (.ref b36), .val (.ref b51), .unset, .unset, .unset, .unset, .unset, .unset] [(.int ((v27 ^^^ v42).toInt8.toInt32)), (.int (0 : Int32)), (.ref b51)])) _
    refine st63 _ ?_
    show Steps p.tables e below (T63.setTop (mkF m 121 #[.val (.int p1), .val (.int p2), .val (.int p3), .val (.int p4), .val (.int p5), .val (.int v1), .val (.ref b2), .val (.ref b24), .val (.ref b36), .val (.ref b51), .unset, .unset, .unset, .unset, .unset, .unset] [])) _
    refine XS.aload X63.here hx rfl (hb hby at_121) rfl rfl ?_
    show Steps p.tables e below (T63.setTop (mkF m 123 #[.val (.int p1), .val (.int p2), .val (.int p3), .val (.int p4), .val (.int p5), .val (.int v1), .val (.ref b2), .val (.ref b24), .val (.ref b36), .val (.ref b51), .unset, .unset, .unset, .unset, .unset, .unset] [(.ref b51)])) _
    refine XS.iconst X63.here hx rfl (hb hby at_123) ?_
    show Steps p.tables e below (T63.setTop (mkF m 124 #[.val (.int p1), .val (.int p2), .val (.int p3), .val (.int p4), .val (.int p5), .val (.int v1), .val (.ref b2), .val (.ref b24), .val (.ref b36), .val (.ref b51), .unset, .unset, .unset, .unset, .unset, .unset] [(.int (1 : Int32)), (.ref b51)])) _
    refine XS.aload X63.here hx rfl (hb hby at_124) rfl rfl ?_
    show Steps p.tables e below (T63.setTop (mkF m 126 #[.val (.int p1), .val (.int p2), .val (.int p3), .val (.int p4), .val (.int p5), .val (.int v1), .val (.ref b2), .val (.ref b24), .val (.ref b36), .val (.ref b51), .unset, .unset, .unset, .unset, .unset, .unset] [(.ref b24), (.int (1 : Int32)), (.ref b51)])) _
    refine XS.iconst X63.here hx rfl (hb hby at_126) ?_
    show Steps p.tables e below (T63.setTop (mkF m 127 #[.val (.int p1), .val (.int p2), .val (.int p3), .val (.int p4), .val (.int p5), .val (.int v1), .val (.ref b2), .val (.ref b24), .val (.ref b36), .val (.ref b51), .unset, .unset, .unset, .unset, .unset, .unset] [(.int (1 : Int32)), (.ref b24), (.int (1 : Int32)), (.ref b51)])) _
    refine X63.baloadBytes hx (j := (1 : Int32)) (v := (.int v28)) (own_hp e63 Ar66.1) (State.isArrayOf_alike hZ.alike Ar66.2.1) Ar66.2.2 hin66 hat66 (g := (mkF m 127 #[.val (.int p1), .val (.int p2), .val (.int p3), .val (.int p4), .val (.int p5), .val (.int v1), .val (.ref b2), .val (.ref b24), .val (.ref b36), .val (.ref b51), .unset, .unset, .unset, .unset, .unset, .unset] [(.int (1 : Int32)), (.ref b24), (.int (1 : Int32)), (.ref b51)])) rfl rfl (hb hby at_127) _ ?_
    show Steps p.tables e below (T63.setTop (mkF m 128 #[.val (.int p1), .val (.int p2), .val (.int p3), .val (.int p4), .val (.int p5), .val (.int v1), .val (.ref b2), .val (.ref b24), .val (.ref b36), .val (.ref b51), .unset, .unset, .unset, .unset, .unset, .unset] [(.int v28), (.int (1 : Int32)), (.ref b51)])) _
    refine XS.aload X63.here hx rfl (hb hby at_128) rfl rfl ?_
    show Steps p.tables e below (T63.setTop (mkF m 130 #[.val (.int p1), .val (.int p2), .val (.int p3), .val (.int p4), .val (.int p5), .val (.int v1), .val (.ref b2), .val (.ref b24), .val (.ref b36), .val (.ref b51), .unset, .unset, .unset, .unset, .unset, .unset] [(.ref b36), (.int v28), (.int (1 : Int32)), (.ref b51)])) _
    refine XS.iconst X63.here hx rfl (hb hby at_130) ?_
    show Steps p.tables e below (T63.setTop (mkF m 131 #[.val (.int p1), .val (.int p2), .val (.int p3), .val (.int p4), .val (.int p5), .val (.int v1), .val (.ref b2), .val (.ref b24), .val (.ref b36), .val (.ref b51), .unset, .unset, .unset, .unset, .unset, .unset] [(.int (1 : Int32)), (.ref b36), (.int v28), (.int (1 : Int32)), (.ref b51)])) _
    refine X63.baloadBytes hx (j := (1 : Int32)) (v := (.int v43)) (own_hp e63 Ar68.1) (State.isArrayOf_alike hZ.alike Ar68.2.1) Ar68.2.2 hin68 hat68 (g := (mkF m 131 #[.val (.int p1), .val (.int p2), .val (.int p3), .val (.int p4), .val (.int p5), .val (.int v1), .val (.ref b2), .val (.ref b24), .val (.ref b36), .val (.ref b51), .unset, .unset, .unset, .unset, .unset, .unset] [(.int (1 : Int32)), (.ref b36), (.int v28), (.int (1 : Int32)), (.ref b51)])) rfl rfl (hb hby at_131) _ ?_
    show Steps p.tables e below (T63.setTop (mkF m 132 #[.val (.int p1), .val (.int p2), .val (.int p3), .val (.int p4), .val (.int p5), .val (.int v1), .val (.ref b2), .val (.ref b24), .val (.ref b36), .val (.ref b51), .unset, .unset, .unset, .unset, .unset, .unset] [(.int v43), (.int v28), (.int (1 : Int32)), (.ref b51)])) _
    refine XS.ixor X63.here hx rfl (hb hby at_132) rfl ?_
    show Steps p.tables e below (T63.setTop (mkF m 133 #[.val (.int p1), .val (.int p2), .val (.int p3), .val (.int p4), .val (.int p5), .val (.int v1), .val (.ref b2), .val (.ref b24), .val (.ref b36), .val (.ref b51), .unset, .unset, .unset, .unset, .unset, .unset] [(.int (v28 ^^^ v43)), (.int (1 : Int32)), (.ref b51)])) _
    refine XS.i2b X63.here hx rfl (hb hby at_133) rfl ?_
    exact ktx
  obtain ⟨cl70, Ar70, q70, S70, M70, H70, G70⟩ := id V63
  have hin70 : ¬ ((1 : Int32) < 0 ∨ cl70.slots.size ≤ ((1 : Int32)).toNatClampNeg) := inb_of S70 ⟨by decide, by decide⟩
  obtain ⟨T71, h71, X71, e71, W71, st71⟩ := stB X63 hx hZ e63 Ar70 (j := (1 : Int32)) hin70 (g := (mkF m 134 #[.val (.int p1), .val (.int p2), .val (.int p3), .val (.int p4), .val (.int p5), .val (.int v1), .val (.ref b2), .val (.ref b24), .val (.ref b36), .val (.ref b51), .unset, .unset, .unset, .unset, .unset, .unset] [(.int ((v28 ^^^ v43).toInt8.toInt32)), (.int (1 : Int32)), (.ref b51)])) rfl rfl (hb hby at_134)
  have Z71 : n0 ≤ h71.size := Nat.le_trans Z63 (Nat.le_of_eq W71.size.symm)
  have N71 := Fr.snoc X71 N63 g_b51
  have V71 : Arv Z h71 b51 k51 .byte (8 : Int32) [(.int v64), (.int (((v28 ^^^ v43).toInt8.toInt32).toInt8.toInt32)), (.int (0 : Int32)), (.int (0 : Int32)), (.int (0 : Int32)), (.int (0 : Int32)), (.int (0 : Int32)), (.int (0 : Int32))] (.int (0 : Int32)) := Arv.set Ar70 q70 S70 M70 H70 G70 (fits_nar_byte _) W71 1 rfl (Nat.le_of_ble_eq_true rfl)
  obtain ⟨v72, hv_v72⟩ : ∃ z : Int32, z = (((v28 ^^^ v43).toInt8.toInt32).toInt8.toInt32) := ⟨_, rfl⟩
  rw [← hv_v72] at V71
  have f73 := (f65.other W71 ne54)
  obtain ⟨cl74, Ar74, q74, S74, M74, H74, G74⟩ := id f73
  have hin74 : ¬ ((2 : Int32) < 0 ∨ cl74.slots.size ≤ ((2 : Int32)).toNatClampNeg) := inb_of S74 ⟨by decide, by decide⟩
  have hat74 : cl74.slots[((2 : Int32)).toNatClampNeg]? = some (.int v29) := Has.at H74 hin74 rfl
  have f75 := (f67.other W71 ne56)
  obtain ⟨cl76, Ar76, q76, S76, M76, H76, G76⟩ := id f75
  have hin76 : ¬ ((2 : Int32) < 0 ∨ cl76.slots.size ≤ ((2 : Int32)).toNatClampNeg) := inb_of S76 ⟨by decide, by decide⟩
  have hat76 : cl76.slots[((2 : Int32)).toNatClampNeg]? = some (.int v44) := Has.at H76 hin76 rfl
  obtain ⟨cl77, Ar77, q77, S77, M77, H77, G77⟩ := id V71
  have hin77 : ¬ ((2 : Int32) < 0 ∨ cl77.slots.size ≤ ((2 : Int32)).toNatClampNeg) := inb_of S77 ⟨by decide, by decide⟩
  obtain ⟨T78, h78, X78, e78, W78, st78⟩ := stB X71 hx hZ e71 Ar77 (j := (2 : Int32)) hin77 (g := (mkF m 148 #[.val (.int p1), .val (.int p2), .val (.int p3), .val (.int p4), .val (.int p5), .val (.int v1), .val (.ref b2), .val (.ref b24), .val (.ref b36), .val (.ref b51), .unset, .unset, .unset, .unset, .unset, .unset] [(.int ((v29 ^^^ v44).toInt8.toInt32)), (.int (2 : Int32)), (.ref b51)])) rfl rfl (hb hby at_148)
  have Z78 : n0 ≤ h78.size := Nat.le_trans Z71 (Nat.le_of_eq W78.size.symm)
  have N78 := Fr.snoc X78 N71 g_b51
  have V78 : Arv Z h78 b51 k51 .byte (8 : Int32) [(.int v64), (.int v72), (.int (((v29 ^^^ v44).toInt8.toInt32).toInt8.toInt32)), (.int (0 : Int32)), (.int (0 : Int32)), (.int (0 : Int32)), (.int (0 : Int32)), (.int (0 : Int32))] (.int (0 : Int32)) := Arv.set Ar77 q77 S77 M77 H77 G77 (fits_nar_byte _) W78 2 rfl (Nat.le_of_ble_eq_true rfl)
  obtain ⟨v79, hv_v79⟩ : ∃ z : Int32, z = (((v29 ^^^ v44).toInt8.toInt32).toInt8.toInt32) := ⟨_, rfl⟩
  rw [← hv_v79] at V78
  have go80 : own_go p e below (s₁.setTop (entryFrame m #[(.int p1), (.int p2), (.int p3), (.int p4), (.int p5)] maxLocals)) (T78.setTop (mkF m 154 #[.val (.int p1), .val (.int p2), .val (.int p3), .val (.int p4), .val (.int p5), .val (.int v1), .val (.ref b2), .val (.ref b24), .val (.ref b36), .val (.ref b51), .unset, .unset, .unset, .unset, .unset, .unset] [(.ref b24), (.int (3 : Int32)), (.ref b51)])) := by
    intro ttx ktx
    refine go69 ttx ?_
    show Steps p.tables e below (T63.setTop (mkF m 134 #[.val (.int p1), .val (.int p2), .val (.int p3), .val (.int p4), .val (.int p5), .val (.int v1), .val (.ref b2), .val (.ref b24), .val (.ref b36), .val (.ref b51), .unset, .unset, .unset, .unset, .unset, .unset] [(.int ((v28 ^^^ v43).toInt8.toInt32)), (.int (1 : Int32)), (.ref b51)])) _
    refine st71 _ ?_
    show Steps p.tables e below (T71.setTop (mkF m 135 #[.val (.int p1), .val (.int p2), .val (.int p3), .val (.int p4), .val (.int p5), .val (.int v1), .val (.ref b2), .val (.ref b24), .val (.ref b36), .val (.ref b51), .unset, .unset, .unset, .unset, .unset, .unset] [])) _
    refine XS.aload X71.here hx rfl (hb hby at_135) rfl rfl ?_
    show Steps p.tables e below (T71.setTop (mkF m 137 #[.val (.int p1), .val (.int p2), .val (.int p3), .val (.int p4), .val (.int p5), .val (.int v1), .val (.ref b2), .val (.ref b24), .val (.ref b36), .val (.ref b51), .unset, .unset, .unset, .unset, .unset, .unset] [(.ref b51)])) _
    refine XS.iconst X71.here hx rfl (hb hby at_137) ?_
    show Steps p.tables e below (T71.setTop (mkF m 138 #[.val (.int p1), .val (.int p2), .val (.int p3), .val (.int p4), .val (.int p5), .val (.int v1), .val (.ref b2), .val (.ref b24), .val (.ref b36), .val (.ref b51), .unset, .unset, .unset, .unset, .unset, .unset] [(.int (2 : Int32)), (.ref b51)])) _
    refine XS.aload X71.here hx rfl (hb hby at_138) rfl rfl ?_
    show Steps p.tables e below (T71.setTop (mkF m 140 #[.val (.int p1), .val (.int p2), .val (.int p3), .val (.int p4), .val (.int p5), .val (.int v1), .val (.ref b2), .val (.ref b24), .val (.ref b36), .val (.ref b51), .unset, .unset, .unset, .unset, .unset, .unset] [(.ref b24), (.int (2 : Int32)), (.ref b51)])) _
    refine XS.iconst X71.here hx rfl (hb hby at_140) ?_
    show Steps p.tables e below (T71.setTop (mkF m 141 #[.val (.int p1), .val (.int p2), .val (.int p3), .val (.int p4), .val (.int p5), .val (.int v1), .val (.ref b2), .val (.ref b24), .val (.ref b36), .val (.ref b51), .unset, .unset, .unset, .unset, .unset, .unset] [(.int (2 : Int32)), (.ref b24), (.int (2 : Int32)), (.ref b51)])) _
    refine X71.baloadBytes hx (j := (2 : Int32)) (v := (.int v29)) (own_hp e71 Ar74.1) (State.isArrayOf_alike hZ.alike Ar74.2.1) Ar74.2.2 hin74 hat74 (g := (mkF m 141 #[.val (.int p1), .val (.int p2), .val (.int p3), .val (.int p4), .val (.int p5), .val (.int v1), .val (.ref b2), .val (.ref b24), .val (.ref b36), .val (.ref b51), .unset, .unset, .unset, .unset, .unset, .unset] [(.int (2 : Int32)), (.ref b24), (.int (2 : Int32)), (.ref b51)])) rfl rfl (hb hby at_141) _ ?_
    show Steps p.tables e below (T71.setTop (mkF m 142 #[.val (.int p1), .val (.int p2), .val (.int p3), .val (.int p4), .val (.int p5), .val (.int v1), .val (.ref b2), .val (.ref b24), .val (.ref b36), .val (.ref b51), .unset, .unset, .unset, .unset, .unset, .unset] [(.int v29), (.int (2 : Int32)), (.ref b51)])) _
    refine XS.aload X71.here hx rfl (hb hby at_142) rfl rfl ?_
    show Steps p.tables e below (T71.setTop (mkF m 144 #[.val (.int p1), .val (.int p2), .val (.int p3), .val (.int p4), .val (.int p5), .val (.int v1), .val (.ref b2), .val (.ref b24), .val (.ref b36), .val (.ref b51), .unset, .unset, .unset, .unset, .unset, .unset] [(.ref b36), (.int v29), (.int (2 : Int32)), (.ref b51)])) _
    refine XS.iconst X71.here hx rfl (hb hby at_144) ?_
    show Steps p.tables e below (T71.setTop (mkF m 145 #[.val (.int p1), .val (.int p2), .val (.int p3), .val (.int p4), .val (.int p5), .val (.int v1), .val (.ref b2), .val (.ref b24), .val (.ref b36), .val (.ref b51), .unset, .unset, .unset, .unset, .unset, .unset] [(.int (2 : Int32)), (.ref b36), (.int v29), (.int (2 : Int32)), (.ref b51)])) _
    refine X71.baloadBytes hx (j := (2 : Int32)) (v := (.int v44)) (own_hp e71 Ar76.1) (State.isArrayOf_alike hZ.alike Ar76.2.1) Ar76.2.2 hin76 hat76 (g := (mkF m 145 #[.val (.int p1), .val (.int p2), .val (.int p3), .val (.int p4), .val (.int p5), .val (.int v1), .val (.ref b2), .val (.ref b24), .val (.ref b36), .val (.ref b51), .unset, .unset, .unset, .unset, .unset, .unset] [(.int (2 : Int32)), (.ref b36), (.int v29), (.int (2 : Int32)), (.ref b51)])) rfl rfl (hb hby at_145) _ ?_
    show Steps p.tables e below (T71.setTop (mkF m 146 #[.val (.int p1), .val (.int p2), .val (.int p3), .val (.int p4), .val (.int p5), .val (.int v1), .val (.ref b2), .val (.ref b24), .val (.ref b36), .val (.ref b51), .unset, .unset, .unset, .unset, .unset, .unset] [(.int v44), (.int v29), (.int (2 : Int32)), (.ref b51)])) _
    refine XS.ixor X71.here hx rfl (hb hby at_146) rfl ?_
    show Steps p.tables e below (T71.setTop (mkF m 147 #[.val (.int p1), .val (.int p2), .val (.int p3), .val (.int p4), .val (.int p5), .val (.int v1), .val (.ref b2), .val (.ref b24), .val (.ref b36), .val (.ref b51), .unset, .unset, .unset, .unset, .unset, .unset] [(.int (v29 ^^^ v44)), (.int (2 : Int32)), (.ref b51)])) _
    refine XS.i2b X71.here hx rfl (hb hby at_147) rfl ?_
    show Steps p.tables e below (T71.setTop (mkF m 148 #[.val (.int p1), .val (.int p2), .val (.int p3), .val (.int p4), .val (.int p5), .val (.int v1), .val (.ref b2), .val (.ref b24), .val (.ref b36), .val (.ref b51), .unset, .unset, .unset, .unset, .unset, .unset] [(.int ((v29 ^^^ v44).toInt8.toInt32)), (.int (2 : Int32)), (.ref b51)])) _
    refine st78 _ ?_
    show Steps p.tables e below (T78.setTop (mkF m 149 #[.val (.int p1), .val (.int p2), .val (.int p3), .val (.int p4), .val (.int p5), .val (.int v1), .val (.ref b2), .val (.ref b24), .val (.ref b36), .val (.ref b51), .unset, .unset, .unset, .unset, .unset, .unset] [])) _
    refine XS.aload X78.here hx rfl (hb hby at_149) rfl rfl ?_
    show Steps p.tables e below (T78.setTop (mkF m 151 #[.val (.int p1), .val (.int p2), .val (.int p3), .val (.int p4), .val (.int p5), .val (.int v1), .val (.ref b2), .val (.ref b24), .val (.ref b36), .val (.ref b51), .unset, .unset, .unset, .unset, .unset, .unset] [(.ref b51)])) _
    refine XS.iconst X78.here hx rfl (hb hby at_151) ?_
    show Steps p.tables e below (T78.setTop (mkF m 152 #[.val (.int p1), .val (.int p2), .val (.int p3), .val (.int p4), .val (.int p5), .val (.int v1), .val (.ref b2), .val (.ref b24), .val (.ref b36), .val (.ref b51), .unset, .unset, .unset, .unset, .unset, .unset] [(.int (3 : Int32)), (.ref b51)])) _
    refine XS.aload X78.here hx rfl (hb hby at_152) rfl rfl ?_
    exact ktx
  have f81 := (f73.other W78 ne54)
  obtain ⟨cl82, Ar82, q82, S82, M82, H82, G82⟩ := id f81
  have hin82 : ¬ ((3 : Int32) < 0 ∨ cl82.slots.size ≤ ((3 : Int32)).toNatClampNeg) := inb_of S82 ⟨by decide, by decide⟩
  have hat82 : cl82.slots[((3 : Int32)).toNatClampNeg]? = some (.int v30) := Has.at H82 hin82 rfl
  have f83 := (f75.other W78 ne56)
  obtain ⟨cl84, Ar84, q84, S84, M84, H84, G84⟩ := id f83
  have hin84 : ¬ ((3 : Int32) < 0 ∨ cl84.slots.size ≤ ((3 : Int32)).toNatClampNeg) := inb_of S84 ⟨by decide, by decide⟩
  have hat84 : cl84.slots[((3 : Int32)).toNatClampNeg]? = some (.int v45) := Has.at H84 hin84 rfl
  obtain ⟨cl85, Ar85, q85, S85, M85, H85, G85⟩ := id V78
  have hin85 : ¬ ((3 : Int32) < 0 ∨ cl85.slots.size ≤ ((3 : Int32)).toNatClampNeg) := inb_of S85 ⟨by decide, by decide⟩
  obtain ⟨T86, h86, X86, e86, W86, st86⟩ := stB X78 hx hZ e78 Ar85 (j := (3 : Int32)) hin85 (g := (mkF m 162 #[.val (.int p1), .val (.int p2), .val (.int p3), .val (.int p4), .val (.int p5), .val (.int v1), .val (.ref b2), .val (.ref b24), .val (.ref b36), .val (.ref b51), .unset, .unset, .unset, .unset, .unset, .unset] [(.int ((v30 ^^^ v45).toInt8.toInt32)), (.int (3 : Int32)), (.ref b51)])) rfl rfl (hb hby at_162)
  have Z86 : n0 ≤ h86.size := Nat.le_trans Z78 (Nat.le_of_eq W86.size.symm)
  have N86 := Fr.snoc X86 N78 g_b51
  have V86 : Arv Z h86 b51 k51 .byte (8 : Int32) [(.int v64), (.int v72), (.int v79), (.int (((v30 ^^^ v45).toInt8.toInt32).toInt8.toInt32)), (.int (0 : Int32)), (.int (0 : Int32)), (.int (0 : Int32)), (.int (0 : Int32))] (.int (0 : Int32)) := Arv.set Ar85 q85 S85 M85 H85 G85 (fits_nar_byte _) W86 3 rfl (Nat.le_of_ble_eq_true rfl)
  obtain ⟨v87, hv_v87⟩ : ∃ z : Int32, z = (((v30 ^^^ v45).toInt8.toInt32).toInt8.toInt32) := ⟨_, rfl⟩
  rw [← hv_v87] at V86
  have f88 := (f81.other W86 ne54)
  obtain ⟨cl89, Ar89, q89, S89, M89, H89, G89⟩ := id f88
  have hin89 : ¬ ((4 : Int32) < 0 ∨ cl89.slots.size ≤ ((4 : Int32)).toNatClampNeg) := inb_of S89 ⟨by decide, by decide⟩
  have hat89 : cl89.slots[((4 : Int32)).toNatClampNeg]? = some (.int v32) := Has.at H89 hin89 rfl
  have go90 : own_go p e below (s₁.setTop (entryFrame m #[(.int p1), (.int p2), (.int p3), (.int p4), (.int p5)] maxLocals)) (T86.setTop (mkF m 173 #[.val (.int p1), .val (.int p2), .val (.int p3), .val (.int p4), .val (.int p5), .val (.int v1), .val (.ref b2), .val (.ref b24), .val (.ref b36), .val (.ref b51), .unset, .unset, .unset, .unset, .unset, .unset] [(.int (4 : Int32)), (.ref b36), (.int v32), (.int (4 : Int32)), (.ref b51)])) := by
    intro ttx ktx
    refine go80 ttx ?_
    show Steps p.tables e below (T78.setTop (mkF m 154 #[.val (.int p1), .val (.int p2), .val (.int p3), .val (.int p4), .val (.int p5), .val (.int v1), .val (.ref b2), .val (.ref b24), .val (.ref b36), .val (.ref b51), .unset, .unset, .unset, .unset, .unset, .unset] [(.ref b24), (.int (3 : Int32)), (.ref b51)])) _
    refine XS.iconst X78.here hx rfl (hb hby at_154) ?_
    show Steps p.tables e below (T78.setTop (mkF m 155 #[.val (.int p1), .val (.int p2), .val (.int p3), .val (.int p4), .val (.int p5), .val (.int v1), .val (.ref b2), .val (.ref b24), .val (.ref b36), .val (.ref b51), .unset, .unset, .unset, .unset, .unset, .unset] [(.int (3 : Int32)), (.ref b24), (.int (3 : Int32)), (.ref b51)])) _
    refine X78.baloadBytes hx (j := (3 : Int32)) (v := (.int v30)) (own_hp e78 Ar82.1) (State.isArrayOf_alike hZ.alike Ar82.2.1) Ar82.2.2 hin82 hat82 (g := (mkF m 155 #[.val (.int p1), .val (.int p2), .val (.int p3), .val (.int p4), .val (.int p5), .val (.int v1), .val (.ref b2), .val (.ref b24), .val (.ref b36), .val (.ref b51), .unset, .unset, .unset, .unset, .unset, .unset] [(.int (3 : Int32)), (.ref b24), (.int (3 : Int32)), (.ref b51)])) rfl rfl (hb hby at_155) _ ?_
    show Steps p.tables e below (T78.setTop (mkF m 156 #[.val (.int p1), .val (.int p2), .val (.int p3), .val (.int p4), .val (.int p5), .val (.int v1), .val (.ref b2), .val (.ref b24), .val (.ref b36), .val (.ref b51), .unset, .unset, .unset, .unset, .unset, .unset] [(.int v30), (.int (3 : Int32)), (.ref b51)])) _
    refine XS.aload X78.here hx rfl (hb hby at_156) rfl rfl ?_
    show Steps p.tables e below (T78.setTop (mkF m 158 #[.val (.int p1), .val (.int p2), .val (.int p3), .val (.int p4), .val (.int p5), .val (.int v1), .val (.ref b2), .val (.ref b24), .val (.ref b36), .val (.ref b51), .unset, .unset, .unset, .unset, .unset, .unset] [(.ref b36), (.int v30), (.int (3 : Int32)), (.ref b51)])) _
    refine XS.iconst X78.here hx rfl (hb hby at_158) ?_
    show Steps p.tables e below (T78.setTop (mkF m 159 #[.val (.int p1), .val (.int p2), .val (.int p3), .val (.int p4), .val (.int p5), .val (.int v1), .val (.ref b2), .val (.ref b24), .val (.ref b36), .val (.ref b51), .unset, .unset, .unset, .unset, .unset, .unset] [(.int (3 : Int32)), (.ref b36), (.int v30), (.int (3 : Int32)), (.ref b51)])) _
    refine X78.baloadBytes hx (j := (3 : Int32)) (v := (.int v45)) (own_hp e78 Ar84.1) (State.isArrayOf_alike hZ.alike Ar84.2.1) Ar84.2.2 hin84 hat84 (g := (mkF m 159 #[.val (.int p1), .val (.int p2), .val (.int p3), .val (.int p4), .val (.int p5), .val (.int v1), .val (.ref b2), .val (.ref b24), .val (.ref b36), .val (.ref b51), .unset, .unset, .unset, .unset, .unset, .unset] [(.int (3 : Int32)), (.ref b36), (.int v30), (.int (3 : Int32)), (.ref b51)])) rfl rfl (hb hby at_159) _ ?_
    show Steps p.tables e below (T78.setTop (mkF m 160 #[.val (.int p1), .val (.int p2), .val (.int p3), .val (.int p4), .val (.int p5), .val (.int v1), .val (.ref b2), .val (.ref b24), .val (.ref b36), .val (.ref b51), .unset, .unset, .unset, .unset, .unset, .unset] [(.int v45), (.int v30), (.int (3 : Int32)), (.ref b51)])) _
    refine XS.ixor X78.here hx rfl (hb hby at_160) rfl ?_
    show Steps p.tables e below (T78.setTop (mkF m 161 #[.val (.int p1), .val (.int p2), .val (.int p3), .val (.int p4), .val (.int p5), .val (.int v1), .val (.ref b2), .val (.ref b24), .val (.ref b36), .val (.ref b51), .unset, .unset, .unset, .unset, .unset, .unset] [(.int (v30 ^^^ v45)), (.int (3 : Int32)), (.ref b51)])) _
    refine XS.i2b X78.here hx rfl (hb hby at_161) rfl ?_
    show Steps p.tables e below (T78.setTop (mkF m 162 #[.val (.int p1), .val (.int p2), .val (.int p3), .val (.int p4), .val (.int p5), .val (.int v1), .val (.ref b2), .val (.ref b24), .val (.ref b36), .val (.ref b51), .unset, .unset, .unset, .unset, .unset, .unset] [(.int ((v30 ^^^ v45).toInt8.toInt32)), (.int (3 : Int32)), (.ref b51)])) _
    refine st86 _ ?_
    show Steps p.tables e below (T86.setTop (mkF m 163 #[.val (.int p1), .val (.int p2), .val (.int p3), .val (.int p4), .val (.int p5), .val (.int v1), .val (.ref b2), .val (.ref b24), .val (.ref b36), .val (.ref b51), .unset, .unset, .unset, .unset, .unset, .unset] [])) _
    refine XS.aload X86.here hx rfl (hb hby at_163) rfl rfl ?_
    show Steps p.tables e below (T86.setTop (mkF m 165 #[.val (.int p1), .val (.int p2), .val (.int p3), .val (.int p4), .val (.int p5), .val (.int v1), .val (.ref b2), .val (.ref b24), .val (.ref b36), .val (.ref b51), .unset, .unset, .unset, .unset, .unset, .unset] [(.ref b51)])) _
    refine XS.iconst X86.here hx rfl (hb hby at_165) ?_
    show Steps p.tables e below (T86.setTop (mkF m 166 #[.val (.int p1), .val (.int p2), .val (.int p3), .val (.int p4), .val (.int p5), .val (.int v1), .val (.ref b2), .val (.ref b24), .val (.ref b36), .val (.ref b51), .unset, .unset, .unset, .unset, .unset, .unset] [(.int (4 : Int32)), (.ref b51)])) _
    refine XS.aload X86.here hx rfl (hb hby at_166) rfl rfl ?_
    show Steps p.tables e below (T86.setTop (mkF m 168 #[.val (.int p1), .val (.int p2), .val (.int p3), .val (.int p4), .val (.int p5), .val (.int v1), .val (.ref b2), .val (.ref b24), .val (.ref b36), .val (.ref b51), .unset, .unset, .unset, .unset, .unset, .unset] [(.ref b24), (.int (4 : Int32)), (.ref b51)])) _
    refine XS.iconst X86.here hx rfl (hb hby at_168) ?_
    show Steps p.tables e below (T86.setTop (mkF m 169 #[.val (.int p1), .val (.int p2), .val (.int p3), .val (.int p4), .val (.int p5), .val (.int v1), .val (.ref b2), .val (.ref b24), .val (.ref b36), .val (.ref b51), .unset, .unset, .unset, .unset, .unset, .unset] [(.int (4 : Int32)), (.ref b24), (.int (4 : Int32)), (.ref b51)])) _
    refine X86.baloadBytes hx (j := (4 : Int32)) (v := (.int v32)) (own_hp e86 Ar89.1) (State.isArrayOf_alike hZ.alike Ar89.2.1) Ar89.2.2 hin89 hat89 (g := (mkF m 169 #[.val (.int p1), .val (.int p2), .val (.int p3), .val (.int p4), .val (.int p5), .val (.int v1), .val (.ref b2), .val (.ref b24), .val (.ref b36), .val (.ref b51), .unset, .unset, .unset, .unset, .unset, .unset] [(.int (4 : Int32)), (.ref b24), (.int (4 : Int32)), (.ref b51)])) rfl rfl (hb hby at_169) _ ?_
    show Steps p.tables e below (T86.setTop (mkF m 170 #[.val (.int p1), .val (.int p2), .val (.int p3), .val (.int p4), .val (.int p5), .val (.int v1), .val (.ref b2), .val (.ref b24), .val (.ref b36), .val (.ref b51), .unset, .unset, .unset, .unset, .unset, .unset] [(.int v32), (.int (4 : Int32)), (.ref b51)])) _
    refine XS.aload X86.here hx rfl (hb hby at_170) rfl rfl ?_
    show Steps p.tables e below (T86.setTop (mkF m 172 #[.val (.int p1), .val (.int p2), .val (.int p3), .val (.int p4), .val (.int p5), .val (.int v1), .val (.ref b2), .val (.ref b24), .val (.ref b36), .val (.ref b51), .unset, .unset, .unset, .unset, .unset, .unset] [(.ref b36), (.int v32), (.int (4 : Int32)), (.ref b51)])) _
    refine XS.iconst X86.here hx rfl (hb hby at_172) ?_
    exact ktx
  have f91 := (f83.other W86 ne56)
  obtain ⟨cl92, Ar92, q92, S92, M92, H92, G92⟩ := id f91
  have hin92 : ¬ ((4 : Int32) < 0 ∨ cl92.slots.size ≤ ((4 : Int32)).toNatClampNeg) := inb_of S92 ⟨by decide, by decide⟩
  have hat92 : cl92.slots[((4 : Int32)).toNatClampNeg]? = some (.int v47) := Has.at H92 hin92 rfl
  obtain ⟨cl93, Ar93, q93, S93, M93, H93, G93⟩ := id V86
  have hin93 : ¬ ((4 : Int32) < 0 ∨ cl93.slots.size ≤ ((4 : Int32)).toNatClampNeg) := inb_of S93 ⟨by decide, by decide⟩
  obtain ⟨T94, h94, X94, e94, W94, st94⟩ := stB X86 hx hZ e86 Ar93 (j := (4 : Int32)) hin93 (g := (mkF m 176 #[.val (.int p1), .val (.int p2), .val (.int p3), .val (.int p4), .val (.int p5), .val (.int v1), .val (.ref b2), .val (.ref b24), .val (.ref b36), .val (.ref b51), .unset, .unset, .unset, .unset, .unset, .unset] [(.int ((v32 ^^^ v47).toInt8.toInt32)), (.int (4 : Int32)), (.ref b51)])) rfl rfl (hb hby at_176)
  have Z94 : n0 ≤ h94.size := Nat.le_trans Z86 (Nat.le_of_eq W94.size.symm)
  have N94 := Fr.snoc X94 N86 g_b51
  have V94 : Arv Z h94 b51 k51 .byte (8 : Int32) [(.int v64), (.int v72), (.int v79), (.int v87), (.int (((v32 ^^^ v47).toInt8.toInt32).toInt8.toInt32)), (.int (0 : Int32)), (.int (0 : Int32)), (.int (0 : Int32))] (.int (0 : Int32)) := Arv.set Ar93 q93 S93 M93 H93 G93 (fits_nar_byte _) W94 4 rfl (Nat.le_of_ble_eq_true rfl)
  obtain ⟨v95, hv_v95⟩ : ∃ z : Int32, z = (((v32 ^^^ v47).toInt8.toInt32).toInt8.toInt32) := ⟨_, rfl⟩
  rw [← hv_v95] at V94
  have f96 := (f88.other W94 ne54)
  obtain ⟨cl97, Ar97, q97, S97, M97, H97, G97⟩ := id f96
  have hin97 : ¬ ((5 : Int32) < 0 ∨ cl97.slots.size ≤ ((5 : Int32)).toNatClampNeg) := inb_of S97 ⟨by decide, by decide⟩
  have hat97 : cl97.slots[((5 : Int32)).toNatClampNeg]? = some (.int v33) := Has.at H97 hin97 rfl
  have f98 := (f91.other W94 ne56)
  obtain ⟨cl99, Ar99, q99, S99, M99, H99, G99⟩ := id f98
  have hin99 : ¬ ((5 : Int32) < 0 ∨ cl99.slots.size ≤ ((5 : Int32)).toNatClampNeg) := inb_of S99 ⟨by decide, by decide⟩
  have hat99 : cl99.slots[((5 : Int32)).toNatClampNeg]? = some (.int v48) := Has.at H99 hin99 rfl
  obtain ⟨cl100, Ar100, q100, S100, M100, H100, G100⟩ := id V94
  have hin100 : ¬ ((5 : Int32) < 0 ∨ cl100.slots.size ≤ ((5 : Int32)).toNatClampNeg) := inb_of S100 ⟨by decide, by decide⟩
  obtain ⟨T101, h101, X101, e101, W101, st101⟩ := stB X94 hx hZ e94 Ar100 (j := (5 : Int32)) hin100 (g := (mkF m 190 #[.val (.int p1), .val (.int p2), .val (.int p3), .val (.int p4), .val (.int p5), .val (.int v1), .val (.ref b2), .val (.ref b24), .val (.ref b36), .val (.ref b51), .unset, .unset, .unset, .unset, .unset, .unset] [(.int ((v33 ^^^ v48).toInt8.toInt32)), (.int (5 : Int32)), (.ref b51)])) rfl rfl (hb hby at_190)
  have Z101 : n0 ≤ h101.size := Nat.le_trans Z94 (Nat.le_of_eq W101.size.symm)
  have N101 := Fr.snoc X101 N94 g_b51
  have V101 : Arv Z h101 b51 k51 .byte (8 : Int32) [(.int v64), (.int v72), (.int v79), (.int v87), (.int v95), (.int (((v33 ^^^ v48).toInt8.toInt32).toInt8.toInt32)), (.int (0 : Int32)), (.int (0 : Int32))] (.int (0 : Int32)) := Arv.set Ar100 q100 S100 M100 H100 G100 (fits_nar_byte _) W101 5 rfl (Nat.le_of_ble_eq_true rfl)
  obtain ⟨v102, hv_v102⟩ : ∃ z : Int32, z = (((v33 ^^^ v48).toInt8.toInt32).toInt8.toInt32) := ⟨_, rfl⟩
  rw [← hv_v102] at V101
  have go103 : own_go p e below (s₁.setTop (entryFrame m #[(.int p1), (.int p2), (.int p3), (.int p4), (.int p5)] maxLocals)) (T101.setTop (mkF m 191 #[.val (.int p1), .val (.int p2), .val (.int p3), .val (.int p4), .val (.int p5), .val (.int v1), .val (.ref b2), .val (.ref b24), .val (.ref b36), .val (.ref b51), .unset, .unset, .unset, .unset, .unset, .unset] [])) := by
    intro ttx ktx
    refine go90 ttx ?_
    show Steps p.tables e below (T86.setTop (mkF m 173 #[.val (.int p1), .val (.int p2), .val (.int p3), .val (.int p4), .val (.int p5), .val (.int v1), .val (.ref b2), .val (.ref b24), .val (.ref b36), .val (.ref b51), .unset, .unset, .unset, .unset, .unset, .unset] [(.int (4 : Int32)), (.ref b36), (.int v32), (.int (4 : Int32)), (.ref b51)])) _
    refine X86.baloadBytes hx (j := (4 : Int32)) (v := (.int v47)) (own_hp e86 Ar92.1) (State.isArrayOf_alike hZ.alike Ar92.2.1) Ar92.2.2 hin92 hat92 (g := (mkF m 173 #[.val (.int p1), .val (.int p2), .val (.int p3), .val (.int p4), .val (.int p5), .val (.int v1), .val (.ref b2), .val (.ref b24), .val (.ref b36), .val (.ref b51), .unset, .unset, .unset, .unset, .unset, .unset] [(.int (4 : Int32)), (.ref b36), (.int v32), (.int (4 : Int32)), (.ref b51)])) rfl rfl (hb hby at_173) _ ?_
    show Steps p.tables e below (T86.setTop (mkF m 174 #[.val (.int p1), .val (.int p2), .val (.int p3), .val (.int p4), .val (.int p5), .val (.int v1), .val (.ref b2), .val (.ref b24), .val (.ref b36), .val (.ref b51), .unset, .unset, .unset, .unset, .unset, .unset] [(.int v47), (.int v32), (.int (4 : Int32)), (.ref b51)])) _
    refine XS.ixor X86.here hx rfl (hb hby at_174) rfl ?_
    show Steps p.tables e below (T86.setTop (mkF m 175 #[.val (.int p1), .val (.int p2), .val (.int p3), .val (.int p4), .val (.int p5), .val (.int v1), .val (.ref b2), .val (.ref b24), .val (.ref b36), .val (.ref b51), .unset, .unset, .unset, .unset, .unset, .unset] [(.int (v32 ^^^ v47)), (.int (4 : Int32)), (.ref b51)])) _
    refine XS.i2b X86.here hx rfl (hb hby at_175) rfl ?_
    show Steps p.tables e below (T86.setTop (mkF m 176 #[.val (.int p1), .val (.int p2), .val (.int p3), .val (.int p4), .val (.int p5), .val (.int v1), .val (.ref b2), .val (.ref b24), .val (.ref b36), .val (.ref b51), .unset, .unset, .unset, .unset, .unset, .unset] [(.int ((v32 ^^^ v47).toInt8.toInt32)), (.int (4 : Int32)), (.ref b51)])) _
    refine st94 _ ?_
    show Steps p.tables e below (T94.setTop (mkF m 177 #[.val (.int p1), .val (.int p2), .val (.int p3), .val (.int p4), .val (.int p5), .val (.int v1), .val (.ref b2), .val (.ref b24), .val (.ref b36), .val (.ref b51), .unset, .unset, .unset, .unset, .unset, .unset] [])) _
    refine XS.aload X94.here hx rfl (hb hby at_177) rfl rfl ?_
    show Steps p.tables e below (T94.setTop (mkF m 179 #[.val (.int p1), .val (.int p2), .val (.int p3), .val (.int p4), .val (.int p5), .val (.int v1), .val (.ref b2), .val (.ref b24), .val (.ref b36), .val (.ref b51), .unset, .unset, .unset, .unset, .unset, .unset] [(.ref b51)])) _
    refine XS.iconst X94.here hx rfl (hb hby at_179) ?_
    show Steps p.tables e below (T94.setTop (mkF m 180 #[.val (.int p1), .val (.int p2), .val (.int p3), .val (.int p4), .val (.int p5), .val (.int v1), .val (.ref b2), .val (.ref b24), .val (.ref b36), .val (.ref b51), .unset, .unset, .unset, .unset, .unset, .unset] [(.int (5 : Int32)), (.ref b51)])) _
    refine XS.aload X94.here hx rfl (hb hby at_180) rfl rfl ?_
    show Steps p.tables e below (T94.setTop (mkF m 182 #[.val (.int p1), .val (.int p2), .val (.int p3), .val (.int p4), .val (.int p5), .val (.int v1), .val (.ref b2), .val (.ref b24), .val (.ref b36), .val (.ref b51), .unset, .unset, .unset, .unset, .unset, .unset] [(.ref b24), (.int (5 : Int32)), (.ref b51)])) _
    refine XS.iconst X94.here hx rfl (hb hby at_182) ?_
    show Steps p.tables e below (T94.setTop (mkF m 183 #[.val (.int p1), .val (.int p2), .val (.int p3), .val (.int p4), .val (.int p5), .val (.int v1), .val (.ref b2), .val (.ref b24), .val (.ref b36), .val (.ref b51), .unset, .unset, .unset, .unset, .unset, .unset] [(.int (5 : Int32)), (.ref b24), (.int (5 : Int32)), (.ref b51)])) _
    refine X94.baloadBytes hx (j := (5 : Int32)) (v := (.int v33)) (own_hp e94 Ar97.1) (State.isArrayOf_alike hZ.alike Ar97.2.1) Ar97.2.2 hin97 hat97 (g := (mkF m 183 #[.val (.int p1), .val (.int p2), .val (.int p3), .val (.int p4), .val (.int p5), .val (.int v1), .val (.ref b2), .val (.ref b24), .val (.ref b36), .val (.ref b51), .unset, .unset, .unset, .unset, .unset, .unset] [(.int (5 : Int32)), (.ref b24), (.int (5 : Int32)), (.ref b51)])) rfl rfl (hb hby at_183) _ ?_
    show Steps p.tables e below (T94.setTop (mkF m 184 #[.val (.int p1), .val (.int p2), .val (.int p3), .val (.int p4), .val (.int p5), .val (.int v1), .val (.ref b2), .val (.ref b24), .val (.ref b36), .val (.ref b51), .unset, .unset, .unset, .unset, .unset, .unset] [(.int v33), (.int (5 : Int32)), (.ref b51)])) _
    refine XS.aload X94.here hx rfl (hb hby at_184) rfl rfl ?_
    show Steps p.tables e below (T94.setTop (mkF m 186 #[.val (.int p1), .val (.int p2), .val (.int p3), .val (.int p4), .val (.int p5), .val (.int v1), .val (.ref b2), .val (.ref b24), .val (.ref b36), .val (.ref b51), .unset, .unset, .unset, .unset, .unset, .unset] [(.ref b36), (.int v33), (.int (5 : Int32)), (.ref b51)])) _
    refine XS.iconst X94.here hx rfl (hb hby at_186) ?_
    show Steps p.tables e below (T94.setTop (mkF m 187 #[.val (.int p1), .val (.int p2), .val (.int p3), .val (.int p4), .val (.int p5), .val (.int v1), .val (.ref b2), .val (.ref b24), .val (.ref b36), .val (.ref b51), .unset, .unset, .unset, .unset, .unset, .unset] [(.int (5 : Int32)), (.ref b36), (.int v33), (.int (5 : Int32)), (.ref b51)])) _
    refine X94.baloadBytes hx (j := (5 : Int32)) (v := (.int v48)) (own_hp e94 Ar99.1) (State.isArrayOf_alike hZ.alike Ar99.2.1) Ar99.2.2 hin99 hat99 (g := (mkF m 187 #[.val (.int p1), .val (.int p2), .val (.int p3), .val (.int p4), .val (.int p5), .val (.int v1), .val (.ref b2), .val (.ref b24), .val (.ref b36), .val (.ref b51), .unset, .unset, .unset, .unset, .unset, .unset] [(.int (5 : Int32)), (.ref b36), (.int v33), (.int (5 : Int32)), (.ref b51)])) rfl rfl (hb hby at_187) _ ?_
    show Steps p.tables e below (T94.setTop (mkF m 188 #[.val (.int p1), .val (.int p2), .val (.int p3), .val (.int p4), .val (.int p5), .val (.int v1), .val (.ref b2), .val (.ref b24), .val (.ref b36), .val (.ref b51), .unset, .unset, .unset, .unset, .unset, .unset] [(.int v48), (.int v33), (.int (5 : Int32)), (.ref b51)])) _
    refine XS.ixor X94.here hx rfl (hb hby at_188) rfl ?_
    show Steps p.tables e below (T94.setTop (mkF m 189 #[.val (.int p1), .val (.int p2), .val (.int p3), .val (.int p4), .val (.int p5), .val (.int v1), .val (.ref b2), .val (.ref b24), .val (.ref b36), .val (.ref b51), .unset, .unset, .unset, .unset, .unset, .unset] [(.int (v33 ^^^ v48)), (.int (5 : Int32)), (.ref b51)])) _
    refine XS.i2b X94.here hx rfl (hb hby at_189) rfl ?_
    show Steps p.tables e below (T94.setTop (mkF m 190 #[.val (.int p1), .val (.int p2), .val (.int p3), .val (.int p4), .val (.int p5), .val (.int v1), .val (.ref b2), .val (.ref b24), .val (.ref b36), .val (.ref b51), .unset, .unset, .unset, .unset, .unset, .unset] [(.int ((v33 ^^^ v48).toInt8.toInt32)), (.int (5 : Int32)), (.ref b51)])) _
    refine st101 _ ?_
    exact ktx
  have f104 := (f96.other W101 ne54)
  obtain ⟨cl105, Ar105, q105, S105, M105, H105, G105⟩ := id f104
  have hin105 : ¬ ((6 : Int32) < 0 ∨ cl105.slots.size ≤ ((6 : Int32)).toNatClampNeg) := inb_of S105 ⟨by decide, by decide⟩
  have hat105 : cl105.slots[((6 : Int32)).toNatClampNeg]? = some (.int v34) := Has.at H105 hin105 rfl
  have f106 := (f98.other W101 ne56)
  obtain ⟨cl107, Ar107, q107, S107, M107, H107, G107⟩ := id f106
  have hin107 : ¬ ((6 : Int32) < 0 ∨ cl107.slots.size ≤ ((6 : Int32)).toNatClampNeg) := inb_of S107 ⟨by decide, by decide⟩
  have hat107 : cl107.slots[((6 : Int32)).toNatClampNeg]? = some (.int v49) := Has.at H107 hin107 rfl
  obtain ⟨cl108, Ar108, q108, S108, M108, H108, G108⟩ := id V101
  have hin108 : ¬ ((6 : Int32) < 0 ∨ cl108.slots.size ≤ ((6 : Int32)).toNatClampNeg) := inb_of S108 ⟨by decide, by decide⟩
  obtain ⟨T109, h109, X109, e109, W109, st109⟩ := stB X101 hx hZ e101 Ar108 (j := (6 : Int32)) hin108 (g := (mkF m 207 #[.val (.int p1), .val (.int p2), .val (.int p3), .val (.int p4), .val (.int p5), .val (.int v1), .val (.ref b2), .val (.ref b24), .val (.ref b36), .val (.ref b51), .unset, .unset, .unset, .unset, .unset, .unset] [(.int ((v34 ^^^ v49).toInt8.toInt32)), (.int (6 : Int32)), (.ref b51)])) rfl rfl (hb hby at_207)
  have Z109 : n0 ≤ h109.size := Nat.le_trans Z101 (Nat.le_of_eq W109.size.symm)
  have N109 := Fr.snoc X109 N101 g_b51
  have V109 : Arv Z h109 b51 k51 .byte (8 : Int32) [(.int v64), (.int v72), (.int v79), (.int v87), (.int v95), (.int v102), (.int (((v34 ^^^ v49).toInt8.toInt32).toInt8.toInt32)), (.int (0 : Int32))] (.int (0 : Int32)) := Arv.set Ar108 q108 S108 M108 H108 G108 (fits_nar_byte _) W109 6 rfl (Nat.le_of_ble_eq_true rfl)
  obtain ⟨v110, hv_v110⟩ : ∃ z : Int32, z = (((v34 ^^^ v49).toInt8.toInt32).toInt8.toInt32) := ⟨_, rfl⟩
  rw [← hv_v110] at V109
  have go111 : own_go p e below (s₁.setTop (entryFrame m #[(.int p1), (.int p2), (.int p3), (.int p4), (.int p5)] maxLocals)) (T109.setTop (mkF m 216 #[.val (.int p1), .val (.int p2), .val (.int p3), .val (.int p4), .val (.int p5), .val (.int v1), .val (.ref b2), .val (.ref b24), .val (.ref b36), .val (.ref b51), .unset, .unset, .unset, .unset, .unset, .unset] [(.int (7 : Int32)), (.ref b24), (.int (7 : Int32)), (.ref b51)])) := by
    intro ttx ktx
    refine go103 ttx ?_
    show Steps p.tables e below (T101.setTop (mkF m 191 #[.val (.int p1), .val (.int p2), .val (.int p3), .val (.int p4), .val (.int p5), .val (.int v1), .val (.ref b2), .val (.ref b24), .val (.ref b36), .val (.ref b51), .unset, .unset, .unset, .unset, .unset, .unset] [])) _
    refine XS.aload X101.here hx rfl (hb hby at_191) rfl rfl ?_
    show Steps p.tables e below (T101.setTop (mkF m 193 #[.val (.int p1), .val (.int p2), .val (.int p3), .val (.int p4), .val (.int p5), .val (.int v1), .val (.ref b2), .val (.ref b24), .val (.ref b36), .val (.ref b51), .unset, .unset, .unset, .unset, .unset, .unset] [(.ref b51)])) _
    refine XS.bipush X101.here hx rfl (hb hby at_193) ?_
    show Steps p.tables e below (T101.setTop (mkF m 195 #[.val (.int p1), .val (.int p2), .val (.int p3), .val (.int p4), .val (.int p5), .val (.int v1), .val (.ref b2), .val (.ref b24), .val (.ref b36), .val (.ref b51), .unset, .unset, .unset, .unset, .unset, .unset] [(.int (6 : Int32)), (.ref b51)])) _
    refine XS.aload X101.here hx rfl (hb hby at_195) rfl rfl ?_
    show Steps p.tables e below (T101.setTop (mkF m 197 #[.val (.int p1), .val (.int p2), .val (.int p3), .val (.int p4), .val (.int p5), .val (.int v1), .val (.ref b2), .val (.ref b24), .val (.ref b36), .val (.ref b51), .unset, .unset, .unset, .unset, .unset, .unset] [(.ref b24), (.int (6 : Int32)), (.ref b51)])) _
    refine XS.bipush X101.here hx rfl (hb hby at_197) ?_
    show Steps p.tables e below (T101.setTop (mkF m 199 #[.val (.int p1), .val (.int p2), .val (.int p3), .val (.int p4), .val (.int p5), .val (.int v1), .val (.ref b2), .val (.ref b24), .val (.ref b36), .val (.ref b51), .unset, .unset, .unset, .unset, .unset, .unset] [(.int (6 : Int32)), (.ref b24), (.int (6 : Int32)), (.ref b51)])) _
    refine X101.baloadBytes hx (j := (6 : Int32)) (v := (.int v34)) (own_hp e101 Ar105.1) (State.isArrayOf_alike hZ.alike Ar105.2.1) Ar105.2.2 hin105 hat105 (g := (mkF m 199 #[.val (.int p1), .val (.int p2), .val (.int p3), .val (.int p4), .val (.int p5), .val (.int v1), .val (.ref b2), .val (.ref b24), .val (.ref b36), .val (.ref b51), .unset, .unset, .unset, .unset, .unset, .unset] [(.int (6 : Int32)), (.ref b24), (.int (6 : Int32)), (.ref b51)])) rfl rfl (hb hby at_199) _ ?_
    show Steps p.tables e below (T101.setTop (mkF m 200 #[.val (.int p1), .val (.int p2), .val (.int p3), .val (.int p4), .val (.int p5), .val (.int v1), .val (.ref b2), .val (.ref b24), .val (.ref b36), .val (.ref b51), .unset, .unset, .unset, .unset, .unset, .unset] [(.int v34), (.int (6 : Int32)), (.ref b51)])) _
    refine XS.aload X101.here hx rfl (hb hby at_200) rfl rfl ?_
    show Steps p.tables e below (T101.setTop (mkF m 202 #[.val (.int p1), .val (.int p2), .val (.int p3), .val (.int p4), .val (.int p5), .val (.int v1), .val (.ref b2), .val (.ref b24), .val (.ref b36), .val (.ref b51), .unset, .unset, .unset, .unset, .unset, .unset] [(.ref b36), (.int v34), (.int (6 : Int32)), (.ref b51)])) _
    refine XS.bipush X101.here hx rfl (hb hby at_202) ?_
    show Steps p.tables e below (T101.setTop (mkF m 204 #[.val (.int p1), .val (.int p2), .val (.int p3), .val (.int p4), .val (.int p5), .val (.int v1), .val (.ref b2), .val (.ref b24), .val (.ref b36), .val (.ref b51), .unset, .unset, .unset, .unset, .unset, .unset] [(.int (6 : Int32)), (.ref b36), (.int v34), (.int (6 : Int32)), (.ref b51)])) _
    refine X101.baloadBytes hx (j := (6 : Int32)) (v := (.int v49)) (own_hp e101 Ar107.1) (State.isArrayOf_alike hZ.alike Ar107.2.1) Ar107.2.2 hin107 hat107 (g := (mkF m 204 #[.val (.int p1), .val (.int p2), .val (.int p3), .val (.int p4), .val (.int p5), .val (.int v1), .val (.ref b2), .val (.ref b24), .val (.ref b36), .val (.ref b51), .unset, .unset, .unset, .unset, .unset, .unset] [(.int (6 : Int32)), (.ref b36), (.int v34), (.int (6 : Int32)), (.ref b51)])) rfl rfl (hb hby at_204) _ ?_
    show Steps p.tables e below (T101.setTop (mkF m 205 #[.val (.int p1), .val (.int p2), .val (.int p3), .val (.int p4), .val (.int p5), .val (.int v1), .val (.ref b2), .val (.ref b24), .val (.ref b36), .val (.ref b51), .unset, .unset, .unset, .unset, .unset, .unset] [(.int v49), (.int v34), (.int (6 : Int32)), (.ref b51)])) _
    refine XS.ixor X101.here hx rfl (hb hby at_205) rfl ?_
    show Steps p.tables e below (T101.setTop (mkF m 206 #[.val (.int p1), .val (.int p2), .val (.int p3), .val (.int p4), .val (.int p5), .val (.int v1), .val (.ref b2), .val (.ref b24), .val (.ref b36), .val (.ref b51), .unset, .unset, .unset, .unset, .unset, .unset] [(.int (v34 ^^^ v49)), (.int (6 : Int32)), (.ref b51)])) _
    refine XS.i2b X101.here hx rfl (hb hby at_206) rfl ?_
    show Steps p.tables e below (T101.setTop (mkF m 207 #[.val (.int p1), .val (.int p2), .val (.int p3), .val (.int p4), .val (.int p5), .val (.int v1), .val (.ref b2), .val (.ref b24), .val (.ref b36), .val (.ref b51), .unset, .unset, .unset, .unset, .unset, .unset] [(.int ((v34 ^^^ v49).toInt8.toInt32)), (.int (6 : Int32)), (.ref b51)])) _
    refine st109 _ ?_
    show Steps p.tables e below (T109.setTop (mkF m 208 #[.val (.int p1), .val (.int p2), .val (.int p3), .val (.int p4), .val (.int p5), .val (.int v1), .val (.ref b2), .val (.ref b24), .val (.ref b36), .val (.ref b51), .unset, .unset, .unset, .unset, .unset, .unset] [])) _
    refine XS.aload X109.here hx rfl (hb hby at_208) rfl rfl ?_
    show Steps p.tables e below (T109.setTop (mkF m 210 #[.val (.int p1), .val (.int p2), .val (.int p3), .val (.int p4), .val (.int p5), .val (.int v1), .val (.ref b2), .val (.ref b24), .val (.ref b36), .val (.ref b51), .unset, .unset, .unset, .unset, .unset, .unset] [(.ref b51)])) _
    refine XS.bipush X109.here hx rfl (hb hby at_210) ?_
    show Steps p.tables e below (T109.setTop (mkF m 212 #[.val (.int p1), .val (.int p2), .val (.int p3), .val (.int p4), .val (.int p5), .val (.int v1), .val (.ref b2), .val (.ref b24), .val (.ref b36), .val (.ref b51), .unset, .unset, .unset, .unset, .unset, .unset] [(.int (7 : Int32)), (.ref b51)])) _
    refine XS.aload X109.here hx rfl (hb hby at_212) rfl rfl ?_
    show Steps p.tables e below (T109.setTop (mkF m 214 #[.val (.int p1), .val (.int p2), .val (.int p3), .val (.int p4), .val (.int p5), .val (.int v1), .val (.ref b2), .val (.ref b24), .val (.ref b36), .val (.ref b51), .unset, .unset, .unset, .unset, .unset, .unset] [(.ref b24), (.int (7 : Int32)), (.ref b51)])) _
    refine XS.bipush X109.here hx rfl (hb hby at_214) ?_
    exact ktx
  have f112 := (f104.other W109 ne54)
  obtain ⟨cl113, Ar113, q113, S113, M113, H113, G113⟩ := id f112
  have hin113 : ¬ ((7 : Int32) < 0 ∨ cl113.slots.size ≤ ((7 : Int32)).toNatClampNeg) := inb_of S113 ⟨by decide, by decide⟩
  have hat113 : cl113.slots[((7 : Int32)).toNatClampNeg]? = some (.int v35) := Has.at H113 hin113 rfl
  have f114 := (f106.other W109 ne56)
  obtain ⟨cl115, Ar115, q115, S115, M115, H115, G115⟩ := id f114
  have hin115 : ¬ ((7 : Int32) < 0 ∨ cl115.slots.size ≤ ((7 : Int32)).toNatClampNeg) := inb_of S115 ⟨by decide, by decide⟩
  have hat115 : cl115.slots[((7 : Int32)).toNatClampNeg]? = some (.int v50) := Has.at H115 hin115 rfl
  obtain ⟨cl116, Ar116, q116, S116, M116, H116, G116⟩ := id V109
  have hin116 : ¬ ((7 : Int32) < 0 ∨ cl116.slots.size ≤ ((7 : Int32)).toNatClampNeg) := inb_of S116 ⟨by decide, by decide⟩
  obtain ⟨T117, h117, X117, e117, W117, st117⟩ := stB X109 hx hZ e109 Ar116 (j := (7 : Int32)) hin116 (g := (mkF m 224 #[.val (.int p1), .val (.int p2), .val (.int p3), .val (.int p4), .val (.int p5), .val (.int v1), .val (.ref b2), .val (.ref b24), .val (.ref b36), .val (.ref b51), .unset, .unset, .unset, .unset, .unset, .unset] [(.int ((v35 ^^^ v50).toInt8.toInt32)), (.int (7 : Int32)), (.ref b51)])) rfl rfl (hb hby at_224)
  have Z117 : n0 ≤ h117.size := Nat.le_trans Z109 (Nat.le_of_eq W117.size.symm)
  have N117 := Fr.snoc X117 N109 g_b51
  have V117 : Arv Z h117 b51 k51 .byte (8 : Int32) [(.int v64), (.int v72), (.int v79), (.int v87), (.int v95), (.int v102), (.int v110), (.int (((v35 ^^^ v50).toInt8.toInt32).toInt8.toInt32))] (.int (0 : Int32)) := Arv.set Ar116 q116 S116 M116 H116 G116 (fits_nar_byte _) W117 7 rfl (Nat.le_of_ble_eq_true rfl)
  obtain ⟨v118, hv_v118⟩ : ∃ z : Int32, z = (((v35 ^^^ v50).toInt8.toInt32).toInt8.toInt32) := ⟨_, rfl⟩
  rw [← hv_v118] at V117
  have f120 := (((((((((f53.ext E51).other W63 ne52).other W71 ne52).other W78 ne52).other W86 ne52).other W94 ne52).other W101 ne52).other W109 ne52).other W117 ne52)
  obtain ⟨_, _, ⟨T119, L119, k119, n119⟩, -, X119, ⟨Lc119, hQ119, l119, y119, z119⟩, st119⟩ := Jvm.LawKit.callS X117 hx (y := (⟨"io/subjectwire/auth/Crc16", "of", "([BI)I"⟩ : MethodName)) hown (mvT hZ (hw _ (List.mem_of_getElem? (i := 5) rfl))) (mvT hZ (hw _ (List.mem_of_getElem? (i := 6) rfl))) (mvT hZ (hw _ (List.mem_of_getElem? (i := 7) rfl))) (mvT hZ (hw _ (List.mem_of_getElem? (i := 8) rfl))) (by decide) (backOf (W := 0) (rmOF l Z a0 hw [] b2 (9 : Int32) 9 k2 (9 : Int32) ([((49 : Int32).toInt8.toInt32), ((50 : Int32).toInt8.toInt32), ((51 : Int32).toInt8.toInt32), ((52 : Int32).toInt8.toInt32), ((53 : Int32).toInt8.toInt32), ((54 : Int32).toInt8.toInt32), ((55 : Int32).toInt8.toInt32), ((56 : Int32).toInt8.toInt32), ((57 : Int32).toInt8.toInt32)] : List Int32) h117 n0 Z117 f120 rfl (by decide) (by decide)) hZ (hw _ (List.mem_of_getElem? (i := 8) rfl)) (hw _ (List.mem_of_getElem? (i := 7) rfl)) (by decide) (by decide)) (g := (mkF m 229 #[.val (.int p1), .val (.int p2), .val (.int p3), .val (.int p4), .val (.int p5), .val (.int v1), .val (.ref b2), .val (.ref b24), .val (.ref b36), .val (.ref b51), .unset, .unset, .unset, .unset, .unset, .unset] [(.int (9 : Int32)), (.ref b2)])) rfl (by rw [hml]; rfl) (argsL := [(.ref b2), (.int (9 : Int32))]) (rest := []) (lenOf own_pd1 rfl) rfl (by show 2 * 0 + _ ≤ _; exact Nat.le_of_eq rfl) (hb hby at_229) (fun _ _ => ⟨rfl, e117, (by decide : 4 + 0 ≤ _), (by decide : 33 + 0 ≤ _)⟩)
  dsimp only [Pt.U, Pt.locs, Pt.cells, Pt.slots] at X119 l119 y119 z119 st119 hQ119
  rw [l119, y119, z119] at X119
  obtain ⟨r119, rfl, Nq119, e119, hr119⟩ := hQ119
  have N119 := Fr.app N117 Nq119
  have hv_r119 := hr119
  have f122 := (f112.other W117 ne54)
  obtain ⟨_, _, ⟨T121, L121, k121, n121⟩, -, X121, ⟨Lc121, hQ121, l121, y121, z121⟩, st121⟩ := Jvm.LawKit.callS X119 hx (y := (⟨"io/subjectwire/auth/Crc16", "of", "([BI)I"⟩ : MethodName)) hown (mvT hZ (hw _ (List.mem_of_getElem? (i := 5) rfl))) (mvT hZ (hw _ (List.mem_of_getElem? (i := 6) rfl))) (mvT hZ (hw _ (List.mem_of_getElem? (i := 7) rfl))) (mvT hZ (hw _ (List.mem_of_getElem? (i := 8) rfl))) (by decide) (backOf (W := 0) (rmOF l Z a0 hw [] b24 v1 ln k24 (8 : Int32) ([v27, v28, v29, v30, v32, v33, v34, v35] : List Int32) h117 n0 Z117 f122 hln (own_l20 hl7) (own_i8 hl7)) hZ (hw _ (List.mem_of_getElem? (i := 8) rfl)) (hw _ (List.mem_of_getElem? (i := 7) rfl)) (by decide) (by decide)) (g := (mkF m 238 #[.val (.int p1), .val (.int p2), .val (.int p3), .val (.int p4), .val (.int p5), .val (.int v1), .val (.ref b2), .val (.ref b24), .val (.ref b36), .val (.ref b51), .val (.int r119), .unset, .unset, .unset, .unset, .unset] [(.int v1), (.ref b24)])) rfl (by rw [hml]; rfl) (argsL := [(.ref b24), (.int v1)]) (rest := []) (lenOf own_pd1 rfl) rfl (by show 2 * 0 + _ ≤ _; exact Nat.le_of_eq rfl) (hb hby at_238) (fun _ _ => ⟨rfl, e119, (by decide : 4 + 0 ≤ _), (by decide : 33 + 0 ≤ _)⟩)
  dsimp only [Pt.U, Pt.locs, Pt.cells, Pt.slots] at X121 l121 y121 z121 st121 hQ121
  rw [l121, y121, z121] at X121
  obtain ⟨r121, rfl, Nq121, e121, hr121⟩ := hQ121
  have N121 := Fr.app N119 Nq121
  have hv_r121 := hr121
  have go123 : own_go p e below (s₁.setTop (entryFrame m #[(.int p1), (.int p2), (.int p3), (.int p4), (.int p5)] maxLocals)) (T121.setTop (mkF m 243 #[.val (.int p1), .val (.int p2), .val (.int p3), .val (.int p4), .val (.int p5), .val (.int v1), .val (.ref b2), .val (.ref b24), .val (.ref b36), .val (.ref b51), .val (.int r119), .val (.int r121), .unset, .unset, .unset, .unset] [])) := by
    intro ttx ktx
    refine go111 ttx ?_
    show Steps p.tables e below (T109.setTop (mkF m 216 #[.val (.int p1), .val (.int p2), .val (.int p3), .val (.int p4), .val (.int p5), .val (.int v1), .val (.ref b2), .val (.ref b24), .val (.ref b36), .val (.ref b51), .unset, .unset, .unset, .unset, .unset, .unset] [(.int (7 : Int32)), (.ref b24), (.int (7 : Int32)), (.ref b51)])) _
    refine X109.baloadBytes hx (j := (7 : Int32)) (v := (.int v35)) (own_hp e109 Ar113.1) (State.isArrayOf_alike hZ.alike Ar113.2.1) Ar113.2.2 hin113 hat113 (g := (mkF m 216 #[.val (.int p1), .val (.int p2), .val (.int p3), .val (.int p4), .val (.int p5), .val (.int v1), .val (.ref b2), .val (.ref b24), .val (.ref b36), .val (.ref b51), .unset, .unset, .unset, .unset, .unset, .unset] [(.int (7 : Int32)), (.ref b24), (.int (7 : Int32)), (.ref b51)])) rfl rfl (hb hby at_216) _ ?_
    show Steps p.tables e below (T109.setTop (mkF m 217 #[.val (.int p1), .val (.int p2), .val (.int p3), .val (.int p4), .val (.int p5), .val (.int v1), .val (.ref b2), .val (.ref b24), .val (.ref b36), .val (.ref b51), .unset, .unset, .unset, .unset, .unset, .unset] [(.int v35), (.int (7 : Int32)), (.ref b51)])) _
    refine XS.aload X109.here hx rfl (hb hby at_217) rfl rfl ?_
    show Steps p.tables e below (T109.setTop (mkF m 219 #[.val (.int p1), .val (.int p2), .val (.int p3), .val (.int p4), .val (.int p5), .val (.int v1), .val (.ref b2), .val (.ref b24), .val (.ref b36), .val (.ref b51), .unset, .unset, .unset, .unset, .unset, .unset] [(.ref b36), (.int v35), (.int (7 : Int32)), (.ref b51)])) _
    refine XS.bipush X109.here hx rfl (hb hby at_219) ?_
    show Steps p.tables e below (T109.setTop (mkF m 221 #[.val (.int p1), .val (.int p2), .val (.int p3), .val (.int p4), .val (.int p5), .val (.int v1), .val (.ref b2), .val (.ref b24), .val (.ref b36), .val (.ref b51), .unset, .unset, .unset, .unset, .unset, .unset] [(.int (7 : Int32)), (.ref b36), (.int v35), (.int (7 : Int32)), (.ref b51)])) _
    refine X109.baloadBytes hx (j := (7 : Int32)) (v := (.int v50)) (own_hp e109 Ar115.1) (State.isArrayOf_alike hZ.alike Ar115.2.1) Ar115.2.2 hin115 hat115 (g := (mkF m 221 #[.val (.int p1), .val (.int p2), .val (.int p3), .val (.int p4), .val (.int p5), .val (.int v1), .val (.ref b2), .val (.ref b24), .val (.ref b36), .val (.ref b51), .unset, .unset, .unset, .unset, .unset, .unset] [(.int (7 : Int32)), (.ref b36), (.int v35), (.int (7 : Int32)), (.ref b51)])) rfl rfl (hb hby at_221) _ ?_
    show Steps p.tables e below (T109.setTop (mkF m 222 #[.val (.int p1), .val (.int p2), .val (.int p3), .val (.int p4), .val (.int p5), .val (.int v1), .val (.ref b2), .val (.ref b24), .val (.ref b36), .val (.ref b51), .unset, .unset, .unset, .unset, .unset, .unset] [(.int v50), (.int v35), (.int (7 : Int32)), (.ref b51)])) _
    refine XS.ixor X109.here hx rfl (hb hby at_222) rfl ?_
    show Steps p.tables e below (T109.setTop (mkF m 223 #[.val (.int p1), .val (.int p2), .val (.int p3), .val (.int p4), .val (.int p5), .val (.int v1), .val (.ref b2), .val (.ref b24), .val (.ref b36), .val (.ref b51), .unset, .unset, .unset, .unset, .unset, .unset] [(.int (v35 ^^^ v50)), (.int (7 : Int32)), (.ref b51)])) _
    refine XS.i2b X109.here hx rfl (hb hby at_223) rfl ?_
    show Steps p.tables e below (T109.setTop (mkF m 224 #[.val (.int p1), .val (.int p2), .val (.int p3), .val (.int p4), .val (.int p5), .val (.int v1), .val (.ref b2), .val (.ref b24), .val (.ref b36), .val (.ref b51), .unset, .unset, .unset, .unset, .unset, .unset] [(.int ((v35 ^^^ v50).toInt8.toInt32)), (.int (7 : Int32)), (.ref b51)])) _
    refine st117 _ ?_
    show Steps p.tables e below (T117.setTop (mkF m 225 #[.val (.int p1), .val (.int p2), .val (.int p3), .val (.int p4), .val (.int p5), .val (.int v1), .val (.ref b2), .val (.ref b24), .val (.ref b36), .val (.ref b51), .unset, .unset, .unset, .unset, .unset, .unset] [])) _
    refine XS.aload X117.here hx rfl (hb hby at_225) rfl rfl ?_
    show Steps p.tables e below (T117.setTop (mkF m 227 #[.val (.int p1), .val (.int p2), .val (.int p3), .val (.int p4), .val (.int p5), .val (.int v1), .val (.ref b2), .val (.ref b24), .val (.ref b36), .val (.ref b51), .unset, .unset, .unset, .unset, .unset, .unset] [(.ref b2)])) _
    refine XS.bipush X117.here hx rfl (hb hby at_227) ?_
    show Steps p.tables e below (T117.setTop (mkF m 229 #[.val (.int p1), .val (.int p2), .val (.int p3), .val (.int p4), .val (.int p5), .val (.int v1), .val (.ref b2), .val (.ref b24), .val (.ref b36), .val (.ref b51), .unset, .unset, .unset, .unset, .unset, .unset] [(.int (9 : Int32)), (.ref b2)])) _
    refine st119 _ ?_
    show Steps p.tables e below (T119.setTop (mkF m 232 #[.val (.int p1), .val (.int p2), .val (.int p3), .val (.int p4), .val (.int p5), .val (.int v1), .val (.ref b2), .val (.ref b24), .val (.ref b36), .val (.ref b51), .unset, .unset, .unset, .unset, .unset, .unset] [(.int r119)])) _
    refine XS.istore X119.here hx rfl (hb hby at_232) rfl (l' := #[.val (.int p1), .val (.int p2), .val (.int p3), .val (.int p4), .val (.int p5), .val (.int v1), .val (.ref b2), .val (.ref b24), .val (.ref b36), .val (.ref b51), .val (.int r119), .unset, .unset, .unset, .unset, .unset]) rfl ?_
    show Steps p.tables e below (T119.setTop (mkF m 234 #[.val (.int p1), .val (.int p2), .val (.int p3), .val (.int p4), .val (.int p5), .val (.int v1), .val (.ref b2), .val (.ref b24), .val (.ref b36), .val (.ref b51), .val (.int r119), .unset, .unset, .unset, .unset, .unset] [])) _
    refine XS.aload X119.here hx rfl (hb hby at_234) rfl rfl ?_
    show Steps p.tables e below (T119.setTop (mkF m 236 #[.val (.int p1), .val (.int p2), .val (.int p3), .val (.int p4), .val (.int p5), .val (.int v1), .val (.ref b2), .val (.ref b24), .val (.ref b36), .val (.ref b51), .val (.int r119), .unset, .unset, .unset, .unset, .unset] [(.ref b24)])) _
    refine XS.iload X119.here hx rfl (hb hby at_236) rfl ?_
    show Steps p.tables e below (T119.setTop (mkF m 238 #[.val (.int p1), .val (.int p2), .val (.int p3), .val (.int p4), .val (.int p5), .val (.int v1), .val (.ref b2), .val (.ref b24), .val (.ref b36), .val (.ref b51), .val (.int r119), .unset, .unset, .unset, .unset, .unset] [(.int v1), (.ref b24)])) _
    refine st121 _ ?_
    show Steps p.tables e below (T121.setTop (mkF m 241 #[.val (.int p1), .val (.int p2), .val (.int p3), .val (.int p4), .val (.int p5), .val (.int v1), .val (.ref b2), .val (.ref b24), .val (.ref b36), .val (.ref b51), .val (.int r119), .unset, .unset, .unset, .unset, .unset] [(.int r121)])) _
    refine XS.istore X121.here hx rfl (hb hby at_241) rfl (l' := #[.val (.int p1), .val (.int p2), .val (.int p3), .val (.int p4), .val (.int p5), .val (.int v1), .val (.ref b2), .val (.ref b24), .val (.ref b36), .val (.ref b51), .val (.int r119), .val (.int r121), .unset, .unset, .unset, .unset]) rfl ?_
    exact ktx
  have f125 := (f114.other W117 ne56)
  obtain ⟨_, _, ⟨T124, L124, k124, n124⟩, -, X124, ⟨Lc124, hQ124, l124, y124, z124⟩, st124⟩ := Jvm.LawKit.callS X121 hx (y := (⟨"io/subjectwire/auth/Crc16", "of", "([BI)I"⟩ : MethodName)) hown (mvT hZ (hw _ (List.mem_of_getElem? (i := 5) rfl))) (mvT hZ (hw _ (List.mem_of_getElem? (i := 6) rfl))) (mvT hZ (hw _ (List.mem_of_getElem? (i := 7) rfl))) (mvT hZ (hw _ (List.mem_of_getElem? (i := 8) rfl))) (by decide) (backOf (W := 0) (rmOF l Z a0 hw [] b36 v1 ln k36 (8 : Int32) ([v42, v43, v44, v45, v47, v48, v49, v50] : List Int32) h117 n0 Z117 f125 hln (own_l20 hl7) (own_i8 hl7)) hZ (hw _ (List.mem_of_getElem? (i := 8) rfl)) (hw _ (List.mem_of_getElem? (i := 7) rfl)) (by decide) (by decide)) (g := (mkF m 247 #[.val (.int p1), .val (.int p2), .val (.int p3), .val (.int p4), .val (.int p5), .val (.int v1), .val (.ref b2), .val (.ref b24), .val (.ref b36), .val (.ref b51), .val (.int r119), .val (.int r121), .unset, .unset, .unset, .unset] [(.int v1), (.ref b36)])) rfl (by rw [hml]; rfl) (argsL := [(.ref b36), (.int v1)]) (rest := []) (lenOf own_pd1 rfl) rfl (by show 2 * 0 + _ ≤ _; exact Nat.le_of_eq rfl) (hb hby at_247) (fun _ _ => ⟨rfl, e121, (by decide : 4 + 0 ≤ _), (by decide : 33 + 0 ≤ _)⟩)
  dsimp only [Pt.U, Pt.locs, Pt.cells, Pt.slots] at X124 l124 y124 z124 st124 hQ124
  rw [l124, y124, z124] at X124
  obtain ⟨r124, rfl, Nq124, e124, hr124⟩ := hQ124
  have N124 := Fr.app N121 Nq124
  have hv_r124 := hr124
  obtain ⟨_, _, ⟨T126, L126, k126, n126⟩, -, X126, ⟨Lc126, hQ126, l126, y126, z126⟩, st126⟩ := Jvm.LawKit.callS X124 hx (y := (⟨"io/subjectwire/auth/Crc16", "of", "([BI)I"⟩ : MethodName)) hown (mvT hZ (hw _ (List.mem_of_getElem? (i := 5) rfl))) (mvT hZ (hw _ (List.mem_of_getElem? (i := 6) rfl))) (mvT hZ (hw _ (List.mem_of_getElem? (i := 7) rfl))) (mvT hZ (hw _ (List.mem_of_getElem? (i := 8) rfl))) (by decide) (backOf (W := 0) (rmOF l Z a0 hw [] b51 v1 ln k51 (8 : Int32) ([v64, v72, v79, v87, v95, v102, v110, v118] : List Int32) h117 n0 Z117 V117 hln (own_l20 hl7) (own_i8 hl7)) hZ (hw _ (List.mem_of_getElem? (i := 8) rfl)) (hw _ (List.mem_of_getElem? (i := 7) rfl)) (by decide) (by decide)) (g := (mkF m 256 #[.val (.int p1), .val (.int p2), .val (.int p3), .val (.int p4), .val (.int p5), .val (.int v1), .val (.ref b2), .val (.ref b24), .val (.ref b36), .val (.ref b51), .val (.int r119), .val (.int r121), .val (.int r124), .unset, .unset, .unset] [(.int v1), (.ref b51)])) rfl (by rw [hml]; rfl) (argsL := [(.ref b51), (.int v1)]) (rest := []) (lenOf own_pd1 rfl) rfl (by show 2 * 0 + _ ≤ _; exact Nat.le_of_eq rfl) (hb hby at_256) (fun _ _ => ⟨rfl, e124, (by decide : 4 + 0 ≤ _), (by decide : 33 + 0 ≤ _)⟩)
  dsimp only [Pt.U, Pt.locs, Pt.cells, Pt.slots] at X126 l126 y126 z126 st126 hQ126
  rw [l126, y126, z126] at X126
  obtain ⟨r126, rfl, Nq126, e126, hr126⟩ := hQ126
  have N126 := Fr.app N124 Nq126
  have hv_r126 := hr126
  obtain ⟨T127, h127, k127, X127, e127, E127, A127, st127⟩ := newP X126 hx hZ (hw _ (List.mem_of_getElem? (i := 0) rfl)) e126 (g := (mkF m 263 #[.val (.int p1), .val (.int p2), .val (.int p3), .val (.int p4), .val (.int p5), .val (.int v1), .val (.ref b2), .val (.ref b24), .val (.ref b36), .val (.ref b51), .val (.int r119), .val (.int r121), .val (.int r124), .val (.int r126), .unset, .unset] [(.int (10 : Int32))])) rfl (hb hby at_263) rfl (by decide) (cap := 10) (by decide) (by decide) (by decide) (by decide)
  obtain ⟨b127, g127⟩ : ∃ z, z = h117.size := ⟨_, rfl⟩
  rw [← g127] at A127 st127
  have ne128 : b2 ≠ b127 := Nat.ne_of_lt (Nat.lt_of_lt_of_le f120.lt (Nat.le_of_eq g127.symm))
  have ne129 : b24 ≠ b127 := Nat.ne_of_lt (Nat.lt_of_lt_of_le f122.lt (Nat.le_of_eq g127.symm))
  have ne130 : b36 ≠ b127 := Nat.ne_of_lt (Nat.lt_of_lt_of_le f125.lt (Nat.le_of_eq g127.symm))
  have ne131 : b51 ≠ b127 := Nat.ne_of_lt (Nat.lt_of_lt_of_le V117.lt (Nat.le_of_eq g127.symm))
  have g_b127 : n0 ≤ b127 := Nat.le_trans Z117 (Nat.le_of_eq g127.symm)
  have Z127 : n0 ≤ h127.size := Nat.le_trans Z117 E127.1
  have V127 : Arv Z h127 b127 k127 .byte (10 : Int32) [(.int (0 : Int32)), (.int (0 : Int32)), (.int (0 : Int32)), (.int (0 : Int32)), (.int (0 : Int32)), (.int (0 : Int32)), (.int (0 : Int32)), (.int (0 : Int32)), (.int (0 : Int32)), (.int (0 : Int32))] (.int (0 : Int32)) := (Arv.new A127 (by decide)).pad (pad_rep [] (.int (0 : Int32)) 10)
  have go132 : own_go p e below (s₁.setTop (entryFrame m #[(.int p1), (.int p2), (.int p3), (.int p4), (.int p5)] maxLocals)) (T127.setTop (mkF m 273 #[.val (.int p1), .val (.int p2), .val (.int p3), .val (.int p4), .val (.int p5), .val (.int v1), .val (.ref b2), .val (.ref b24), .val (.ref b36), .val (.ref b51), .val (.int r119), .val (.int r121), .val (.int r124), .val (.int r126), .val (.ref b127), .unset] [(.int v1), (.int (0 : Int32)), (.int (0 : Int32)), (.ref b127)])) := by
    intro ttx ktx
    refine go123 ttx ?_
    show Steps p.tables e below (T121.setTop (mkF m 243 #[.val (.int p1), .val (.int p2), .val (.int p3), .val (.int p4), .val (.int p5), .val (.int v1), .val (.ref b2), .val (.ref b24), .val (.ref b36), .val (.ref b51), .val (.int r119), .val (.int r121), .unset, .unset, .unset, .unset] [])) _
    refine XS.aload X121.here hx rfl (hb hby at_243) rfl rfl ?_
    show Steps p.tables e below (T121.setTop (mkF m 245 #[.val (.int p1), .val (.int p2), .val (.int p3), .val (.int p4), .val (.int p5), .val (.int v1), .val (.ref b2), .val (.ref b24), .val (.ref b36), .val (.ref b51), .val (.int r119), .val (.int r121), .unset, .unset, .unset, .unset] [(.ref b36)])) _
    refine XS.iload X121.here hx rfl (hb hby at_245) rfl ?_
    show Steps p.tables e below (T121.setTop (mkF m 247 #[.val (.int p1), .val (.int p2), .val (.int p3), .val (.int p4), .val (.int p5), .val (.int v1), .val (.ref b2), .val (.ref b24), .val (.ref b36), .val (.ref b51), .val (.int r119), .val (.int r121), .unset, .unset, .unset, .unset] [(.int v1), (.ref b36)])) _
    refine st124 _ ?_
    show Steps p.tables e below (T124.setTop (mkF m 250 #[.val (.int p1), .val (.int p2), .val (.int p3), .val (.int p4), .val (.int p5), .val (.int v1), .val (.ref b2), .val (.ref b24), .val (.ref b36), .val (.ref b51), .val (.int r119), .val (.int r121), .unset, .unset, .unset, .unset] [(.int r124)])) _
    refine XS.istore X124.here hx rfl (hb hby at_250) rfl (l' := #[.val (.int p1), .val (.int p2), .val (.int p3), .val (.int p4), .val (.int p5), .val (.int v1), .val (.ref b2), .val (.ref b24), .val (.ref b36), .val (.ref b51), .val (.int r119), .val (.int r121), .val (.int r124), .unset, .unset, .unset]) rfl ?_
    show Steps p.tables e below (T124.setTop (mkF m 252 #[.val (.int p1), .val (.int p2), .val (.int p3), .val (.int p4), .val (.int p5), .val (.int v1), .val (.ref b2), .val (.ref b24), .val (.ref b36), .val (.ref b51), .val (.int r119), .val (.int r121), .val (.int r124), .unset, .unset, .unset] [])) _
    refine XS.aload X124.here hx rfl (hb hby at_252) rfl rfl ?_
    show Steps p.tables e below (T124.setTop (mkF m 254 #[.val (.int p1), .val (.int p2), .val (.int p3), .val (.int p4), .val (.int p5), .val (.int v1), .val (.ref b2), .val (.ref b24), .val (.ref b36), .val (.ref b51), .val (.int r119), .val (.int r121), .val (.int r124), .unset, .unset, .unset] [(.ref b51)])) _
    refine XS.iload X124.here hx rfl (hb hby at_254) rfl ?_
    show Steps p.tables e below (T124.setTop (mkF m 256 #[.val (.int p1), .val (.int p2), .val (.int p3), .val (.int p4), .val (.int p5), .val (.int v1), .val (.ref b2), .val (.ref b24), .val (.ref b36), .val (.ref b51), .val (.int r119), .val (.int r121), .val (.int r124), .unset, .unset, .unset] [(.int v1), (.ref b51)])) _
    refine st126 _ ?_
    show Steps p.tables e below (T126.setTop (mkF m 259 #[.val (.int p1), .val (.int p2), .val (.int p3), .val (.int p4), .val (.int p5), .val (.int v1), .val (.ref b2), .val (.ref b24), .val (.ref b36), .val (.ref b51), .val (.int r119), .val (.int r121), .val (.int r124), .unset, .unset, .unset] [(.int r126)])) _
    refine XS.istore X126.here hx rfl (hb hby at_259) rfl (l' := #[.val (.int p1), .val (.int p2), .val (.int p3), .val (.int p4), .val (.int p5), .val (.int v1), .val (.ref b2), .val (.ref b24), .val (.ref b36), .val (.ref b51), .val (.int r119), .val (.int r121), .val (.int r124), .val (.int r126), .unset, .unset]) rfl ?_
    show Steps p.tables e below (T126.setTop (mkF m 261 #[.val (.int p1), .val (.int p2), .val (.int p3), .val (.int p4), .val (.int p5), .val (.int v1), .val (.ref b2), .val (.ref b24), .val (.ref b36), .val (.ref b51), .val (.int r119), .val (.int r121), .val (.int r124), .val (.int r126), .unset, .unset] [])) _
    refine XS.bipush X126.here hx rfl (hb hby at_261) ?_
    show Steps p.tables e below (T126.setTop (mkF m 263 #[.val (.int p1), .val (.int p2), .val (.int p3), .val (.int p4), .val (.int p5), .val (.int v1), .val (.ref b2), .val (.ref b24), .val (.ref b36), .val (.ref b51), .val (.int r119), .val (.int r121), .val (.int r124), .val (.int r126), .unset, .unset] [(.int (10 : Int32))])) _
    refine st127 _ ?_
    show Steps p.tables e below (T127.setTop (mkF m 265 #[.val (.int p1), .val (.int p2), .val (.int p3), .val (.int p4), .val (.int p5), .val (.int v1), .val (.ref b2), .val (.ref b24), .val (.ref b36), .val (.ref b51), .val (.int r119), .val (.int r121), .val (.int r124), .val (.int r126), .unset, .unset] [(.ref b127)])) _
    refine XS.astore X127.here hx rfl (hb hby at_265) rfl rfl (l' := #[.val (.int p1), .val (.int p2), .val (.int p3), .val (.int p4), .val (.int p5), .val (.int v1), .val (.ref b2), .val (.ref b24), .val (.ref b36), .val (.ref b51), .val (.int r119), .val (.int r121), .val (.int r124), .val (.int r126), .val (.ref b127), .unset]) rfl ?_
    show Steps p.tables e below (T127.setTop (mkF m 267 #[.val (.int p1), .val (.int p2), .val (.int p3), .val (.int p4), .val (.int p5), .val (.int v1), .val (.ref b2), .val (.ref b24), .val (.ref b36), .val (.ref b51), .val (.int r119), .val (.int r121), .val (.int r124), .val (.int r126), .val (.ref b127), .unset] [])) _
    refine XS.aload X127.here hx rfl (hb hby at_267) rfl rfl ?_
    show Steps p.tables e below (T127.setTop (mkF m 269 #[.val (.int p1), .val (.int p2), .val (.int p3), .val (.int p4), .val (.int p5), .val (.int v1), .val (.ref b2), .val (.ref b24), .val (.ref b36), .val (.ref b51), .val (.int r119), .val (.int r121), .val (.int r124), .val (.int r126), .val (.ref b127), .unset] [(.ref b127)])) _
    refine XS.iconst X127.here hx rfl (hb hby at_269) ?_
    show Steps p.tables e below (T127.setTop (mkF m 270 #[.val (.int p1), .val (.int p2), .val (.int p3), .val (.int p4), .val (.int p5), .val (.int v1), .val (.ref b2), .val (.ref b24), .val (.ref b36), .val (.ref b51), .val (.int r119), .val (.int r121), .val (.int r124), .val (.int r126), .val (.ref b127), .unset] [(.int (0 : Int32)), (.ref b127)])) _
    refine XS.iconst X127.here hx rfl (hb hby at_270) ?_
    show Steps p.tables e below (T127.setTop (mkF m 271 #[.val (.int p1), .val (.int p2), .val (.int p3), .val (.int p4), .val (.int p5), .val (.int v1), .val (.ref b2), .val (.ref b24), .val (.ref b36), .val (.ref b51), .val (.int r119), .val (.int r121), .val (.int r124), .val (.int r126), .val (.ref b127), .unset] [(.int (0 : Int32)), (.int (0 : Int32)), (.ref b127)])) _
    refine XS.iload X127.here hx rfl (hb hby at_271) rfl ?_
    exact ktx
  obtain ⟨v136, hv_v136, go137⟩ : ∃ (v136 : Int32), v136 = (if (0 : Int32) < v1 then (1 : Int32) else (0 : Int32)) ∧ own_go p e below (s₁.setTop (entryFrame m #[(.int p1), (.int p2), (.int p3), (.int p4), (.int p5)] maxLocals)) (T127.setTop (mkF m 281 #[.val (.int p1), .val (.int p2), .val (.int p3), .val (.int p4), .val (.int p5), .val (.int v1), .val (.ref b2), .val (.ref b24), .val (.ref b36), .val (.ref b51), .val (.int r119), .val (.int r121), .val (.int r124), .val (.int r126), .val (.ref b127), .unset] [(.int v136), (.int (0 : Int32)), (.ref b127)])) := by
    by_cases hc133_273 : (0 : Int32) < v1
    · have go134 : own_go p e below (s₁.setTop (entryFrame m #[(.int p1), (.int p2), (.int p3), (.int p4), (.int p5)] maxLocals)) (T127.setTop (mkF m 281 #[.val (.int p1), .val (.int p2), .val (.int p3), .val (.int p4), .val (.int p5), .val (.int v1), .val (.ref b2), .val (.ref b24), .val (.ref b36), .val (.ref b51), .val (.int r119), .val (.int r121), .val (.int r124), .val (.int r126), .val (.ref b127), .unset] [(.int (1 : Int32)), (.int (0 : Int32)), (.ref b127)])) := by
        intro ttx ktx
        refine go132 ttx ?_
        show Steps p.tables e below (T127.setTop (mkF m 273 #[.val (.int p1), .val (.int p2), .val (.int p3), .val (.int p4), .val (.int p5), .val (.int v1), .val (.ref b2), .val (.ref b24), .val (.ref b36), .val (.ref b51), .val (.int r119), .val (.int r121), .val (.int r124), .val (.int r126), .val (.ref b127), .unset] [(.int v1), (.int (0 : Int32)), (.int (0 : Int32)), (.ref b127)])) _
        refine XS.icmpNo X127.here hx rfl (hb hby at_273) rfl (tlt hc133_273).2.1 ?_
        show Steps p.tables e below (T127.setTop (mkF m 276 #[.val (.int p1), .val (.int p2), .val (.int p3), .val (.int p4), .val (.int p5), .val (.int v1), .val (.ref b2), .val (.ref b24), .val (.ref b36), .val (.ref b51), .val (.int r119), .val (.int r121), .val (.int r124), .val (.int r126), .val (.ref b127), .unset] [(.int (0 : Int32)), (.ref b127)])) _
        refine XS.iconst X127.here hx rfl (hb hby at_276) ?_
        show Steps p.tables e below (T127.setTop (mkF m 277 #[.val (.int p1), .val (.int p2), .val (.int p3), .val (.int p4), .val (.int p5), .val (.int v1), .val (.ref b2), .val (.ref b24), .val (.ref b36), .val (.ref b51), .val (.int r119), .val (.int r121), .val (.int r124), .val (.int r126), .val (.ref b127), .unset] [(.int (1 : Int32)), (.int (0 : Int32)), (.ref b127)])) _
        refine XS.goto X127.here hx rfl (pc0 := 277) (pc' := 281) rfl (hb hby at_277) (by decide) (by decide) ?_
        exact ktx
      exact ⟨_, (if_pos hc133_273).symm, go134⟩
    · have go135 : own_go p e below (s₁.setTop (entryFrame m #[(.int p1), (.int p2), (.int p3), (.int p4), (.int p5)] maxLocals)) (T127.setTop (mkF m 281 #[.val (.int p1), .val (.int p2), .val (.int p3), .val (.int p4), .val (.int p5), .val (.int v1), .val (.ref b2), .val (.ref b24), .val (.ref b36), .val (.ref b51), .val (.int r119), .val (.int r121), .val (.int r124), .val (.int r126), .val (.ref b127), .unset] [(.int (0 : Int32)), (.int (0 : Int32)), (.ref b127)])) := by
        intro ttx ktx
        refine go132 ttx ?_
        show Steps p.tables e below (T127.setTop (mkF m 273 #[.val (.int p1), .val (.int p2), .val (.int p3), .val (.int p4), .val (.int p5), .val (.int v1), .val (.ref b2), .val (.ref b24), .val (.ref b36), .val (.ref b51), .val (.int r119), .val (.int r121), .val (.int r124), .val (.int r126), .val (.ref b127), .unset] [(.int v1), (.int (0 : Int32)), (.int (0 : Int32)), (.ref b127)])) _
        refine XS.icmpYes X127.here hx rfl (pc0 := 273) (pc' := 280) rfl (hb hby at_273) rfl (flt hc133_273).2.1 (by decide) (by decide) ?_
        show Steps p.tables e below (T127.setTop (mkF m 280 #[.val (.int p1), .val (.int p2), .val (.int p3), .val (.int p4), .val (.int p5), .val (.int v1), .val (.ref b2), .val (.ref b24), .val (.ref b36), .val (.ref b51), .val (.int r119), .val (.int r121), .val (.int r124), .val (.int r126), .val (.ref b127), .unset] [(.int (0 : Int32)), (.ref b127)])) _
        refine XS.iconst X127.here hx rfl (hb hby at_280) ?_
        exact ktx
      exact ⟨_, (if_neg hc133_273).symm, go135⟩
  have f138 := (f122.ext E127)
  obtain ⟨cl139, Ar139, q139, S139, M139, H139, G139⟩ := id f138
  have hin139 : ¬ ((0 : Int32) < 0 ∨ cl139.slots.size ≤ ((0 : Int32)).toNatClampNeg) := inb_of S139 ⟨by decide, by decide⟩
  have hat139 : cl139.slots[((0 : Int32)).toNatClampNeg]? = some (.int v27) := Has.at H139 hin139 rfl
  have f140 := (f125.ext E127)
  obtain ⟨cl141, Ar141, q141, S141, M141, H141, G141⟩ := id f140
  have hin141 : ¬ ((0 : Int32) < 0 ∨ cl141.slots.size ≤ ((0 : Int32)).toNatClampNeg) := inb_of S141 ⟨by decide, by decide⟩
  have hat141 : cl141.slots[((0 : Int32)).toNatClampNeg]? = some (.int v42) := Has.at H141 hin141 rfl
  obtain ⟨_, _, ⟨T142, L142, k142, n142⟩, -, X142, ⟨Lc142, hQ142, l142, y142, z142⟩, st142⟩ := Jvm.LawKit.callS X127 hx (y := (⟨"io/subjectwire/auth/Crc16OfPinLaw", "pick", "(ZBB)B"⟩ : MethodName)) hown (mvT hZ (hw _ (List.mem_of_getElem? (i := 11) rfl))) (mvT hZ (hw _ (List.mem_of_getElem? (i := 12) rfl))) (mvT hZ (hw _ (List.mem_of_getElem? (i := 3) rfl))) (mvT hZ (hw _ (List.mem_of_getElem? (i := 13) rfl))) (by decide) (backOf (W := 2) (rm3 l Z a0 hw [] v136 v27 v42  h127 n0 Z127 ) hZ (hw _ (List.mem_of_getElem? (i := 13) rfl)) (hw _ (List.mem_of_getElem? (i := 3) rfl)) (by decide) (by decide)) (g := (mkF m 289 #[.val (.int p1), .val (.int p2), .val (.int p3), .val (.int p4), .val (.int p5), .val (.int v1), .val (.ref b2), .val (.ref b24), .val (.ref b36), .val (.ref b51), .val (.int r119), .val (.int r121), .val (.int r124), .val (.int r126), .val (.ref b127), .unset] [(.int v42), (.int v27), (.int v136), (.int (0 : Int32)), (.ref b127)])) rfl (by rw [hml]; rfl) (argsL := [(.int v136), (.int v27), (.int v42)]) (rest := [(.int (0 : Int32)), (.ref b127)]) (lenOf own_pd2 rfl) rfl (by show 2 * 0 + _ ≤ _; exact Nat.le_of_eq rfl) (hb hby at_289) (fun _ _ => ⟨rfl, e127, (by decide : 5 + 0 ≤ _), (by decide : 43 + 0 ≤ _)⟩)
  dsimp only [Pt.U, Pt.locs, Pt.cells, Pt.slots] at X142 l142 y142 z142 st142 hQ142
  rw [l142, y142, z142] at X142
  obtain ⟨rfl, Nq142, e142⟩ := hQ142
  have N142 := Fr.app N126 Nq142
  obtain ⟨cl143, Ar143, q143, S143, M143, H143, G143⟩ := id V127
  have hin143 : ¬ ((0 : Int32) < 0 ∨ cl143.slots.size ≤ ((0 : Int32)).toNatClampNeg) := inb_of S143 ⟨by decide, by decide⟩
  obtain ⟨T144, h144, X144, e144, W144, st144⟩ := stB X142 hx hZ e142 Ar143 (j := (0 : Int32)) hin143 (g := (mkF m 292 #[.val (.int p1), .val (.int p2), .val (.int p3), .val (.int p4), .val (.int p5), .val (.int v1), .val (.ref b2), .val (.ref b24), .val (.ref b36), .val (.ref b51), .val (.int r119), .val (.int r121), .val (.int r124), .val (.int r126), .val (.ref b127), .unset] [(.int (nar .byte (if v136 = (0 : Int32) then v42 else v27))), (.int (0 : Int32)), (.ref b127)])) rfl rfl (hb hby at_292)
  have Z144 : n0 ≤ h144.size := Nat.le_trans Z127 (Nat.le_of_eq W144.size.symm)
  have N144 := Fr.snoc X144 N142 g_b127
  have V144 : Arv Z h144 b127 k127 .byte (10 : Int32) [(.int ((nar .byte (if v136 = (0 : Int32) then v42 else v27)).toInt8.toInt32)), (.int (0 : Int32)), (.int (0 : Int32)), (.int (0 : Int32)), (.int (0 : Int32)), (.int (0 : Int32)), (.int (0 : Int32)), (.int (0 : Int32)), (.int (0 : Int32)), (.int (0 : Int32))] (.int (0 : Int32)) := Arv.set Ar143 q143 S143 M143 H143 G143 (fits_nar_byte _) W144 0 rfl (Nat.le_of_ble_eq_true rfl)
  obtain ⟨v145, hv_v145⟩ : ∃ z : Int32, z = ((nar .byte (if v136 = (0 : Int32) then v42 else v27)).toInt8.toInt32) := ⟨_, rfl⟩
  rw [← hv_v145] at V144
  have go146 : own_go p e below (s₁.setTop (entryFrame m #[(.int p1), (.int p2), (.int p3), (.int p4), (.int p5)] maxLocals)) (T144.setTop (mkF m 299 #[.val (.int p1), .val (.int p2), .val (.int p3), .val (.int p4), .val (.int p5), .val (.int v1), .val (.ref b2), .val (.ref b24), .val (.ref b36), .val (.ref b51), .val (.int r119), .val (.int r121), .val (.int r124), .val (.int r126), .val (.ref b127), .unset] [(.int v1), (.int (1 : Int32)), (.int (1 : Int32)), (.ref b127)])) := by
    intro ttx ktx
    refine go137 ttx ?_
    show Steps p.tables e below (T127.setTop (mkF m 281 #[.val (.int p1), .val (.int p2), .val (.int p3), .val (.int p4), .val (.int p5), .val (.int v1), .val (.ref b2), .val (.ref b24), .val (.ref b36), .val (.ref b51), .val (.int r119), .val (.int r121), .val (.int r124), .val (.int r126), .val (.ref b127), .unset] [(.int v136), (.int (0 : Int32)), (.ref b127)])) _
    refine XS.aload X127.here hx rfl (hb hby at_281) rfl rfl ?_
    show Steps p.tables e below (T127.setTop (mkF m 283 #[.val (.int p1), .val (.int p2), .val (.int p3), .val (.int p4), .val (.int p5), .val (.int v1), .val (.ref b2), .val (.ref b24), .val (.ref b36), .val (.ref b51), .val (.int r119), .val (.int r121), .val (.int r124), .val (.int r126), .val (.ref b127), .unset] [(.ref b24), (.int v136), (.int (0 : Int32)), (.ref b127)])) _
    refine XS.iconst X127.here hx rfl (hb hby at_283) ?_
    show Steps p.tables e below (T127.setTop (mkF m 284 #[.val (.int p1), .val (.int p2), .val (.int p3), .val (.int p4), .val (.int p5), .val (.int v1), .val (.ref b2), .val (.ref b24), .val (.ref b36), .val (.ref b51), .val (.int r119), .val (.int r121), .val (.int r124), .val (.int r126), .val (.ref b127), .unset] [(.int (0 : Int32)), (.ref b24), (.int v136), (.int (0 : Int32)), (.ref b127)])) _
    refine X127.baloadBytes hx (j := (0 : Int32)) (v := (.int v27)) (own_hp e127 Ar139.1) (State.isArrayOf_alike hZ.alike Ar139.2.1) Ar139.2.2 hin139 hat139 (g := (mkF m 284 #[.val (.int p1), .val (.int p2), .val (.int p3), .val (.int p4), .val (.int p5), .val (.int v1), .val (.ref b2), .val (.ref b24), .val (.ref b36), .val (.ref b51), .val (.int r119), .val (.int r121), .val (.int r124), .val (.int r126), .val (.ref b127), .unset] [(.int (0 : Int32)), (.ref b24), (.int v136), (.int (0 : Int32)), (.ref b127)])) rfl rfl (hb hby at_284) _ ?_
    show Steps p.tables e below (T127.setTop (mkF m 285 #[.val (.int p1), .val (.int p2), .val (.int p3), .val (.int p4), .val (.int p5), .val (.int v1), .val (.ref b2), .val (.ref b24), .val (.ref b36), .val (.ref b51), .val (.int r119), .val (.int r121), .val (.int r124), .val (.int r126), .val (.ref b127), .unset] [(.int v27), (.int v136), (.int (0 : Int32)), (.ref b127)])) _
    refine XS.aload X127.here hx rfl (hb hby at_285) rfl rfl ?_
    show Steps p.tables e below (T127.setTop (mkF m 287 #[.val (.int p1), .val (.int p2), .val (.int p3), .val (.int p4), .val (.int p5), .val (.int v1), .val (.ref b2), .val (.ref b24), .val (.ref b36), .val (.ref b51), .val (.int r119), .val (.int r121), .val (.int r124), .val (.int r126), .val (.ref b127), .unset] [(.ref b36), (.int v27), (.int v136), (.int (0 : Int32)), (.ref b127)])) _
    refine XS.iconst X127.here hx rfl (hb hby at_287) ?_
    show Steps p.tables e below (T127.setTop (mkF m 288 #[.val (.int p1), .val (.int p2), .val (.int p3), .val (.int p4), .val (.int p5), .val (.int v1), .val (.ref b2), .val (.ref b24), .val (.ref b36), .val (.ref b51), .val (.int r119), .val (.int r121), .val (.int r124), .val (.int r126), .val (.ref b127), .unset] [(.int (0 : Int32)), (.ref b36), (.int v27), (.int v136), (.int (0 : Int32)), (.ref b127)])) _
    refine X127.baloadBytes hx (j := (0 : Int32)) (v := (.int v42)) (own_hp e127 Ar141.1) (State.isArrayOf_alike hZ.alike Ar141.2.1) Ar141.2.2 hin141 hat141 (g := (mkF m 288 #[.val (.int p1), .val (.int p2), .val (.int p3), .val (.int p4), .val (.int p5), .val (.int v1), .val (.ref b2), .val (.ref b24), .val (.ref b36), .val (.ref b51), .val (.int r119), .val (.int r121), .val (.int r124), .val (.int r126), .val (.ref b127), .unset] [(.int (0 : Int32)), (.ref b36), (.int v27), (.int v136), (.int (0 : Int32)), (.ref b127)])) rfl rfl (hb hby at_288) _ ?_
    show Steps p.tables e below (T127.setTop (mkF m 289 #[.val (.int p1), .val (.int p2), .val (.int p3), .val (.int p4), .val (.int p5), .val (.int v1), .val (.ref b2), .val (.ref b24), .val (.ref b36), .val (.ref b51), .val (.int r119), .val (.int r121), .val (.int r124), .val (.int r126), .val (.ref b127), .unset] [(.int v42), (.int v27), (.int v136), (.int (0 : Int32)), (.ref b127)])) _
    refine st142 _ ?_
    show Steps p.tables e below (T142.setTop (mkF m 292 #[.val (.int p1), .val (.int p2), .val (.int p3), .val (.int p4), .val (.int p5), .val (.int v1), .val (.ref b2), .val (.ref b24), .val (.ref b36), .val (.ref b51), .val (.int r119), .val (.int r121), .val (.int r124), .val (.int r126), .val (.ref b127), .unset] [(.int (nar .byte (if v136 = (0 : Int32) then v42 else v27))), (.int (0 : Int32)), (.ref b127)])) _
    refine st144 _ ?_
    show Steps p.tables e below (T144.setTop (mkF m 293 #[.val (.int p1), .val (.int p2), .val (.int p3), .val (.int p4), .val (.int p5), .val (.int v1), .val (.ref b2), .val (.ref b24), .val (.ref b36), .val (.ref b51), .val (.int r119), .val (.int r121), .val (.int r124), .val (.int r126), .val (.ref b127), .unset] [])) _
    refine XS.aload X144.here hx rfl (hb hby at_293) rfl rfl ?_
    show Steps p.tables e below (T144.setTop (mkF m 295 #[.val (.int p1), .val (.int p2), .val (.int p3), .val (.int p4), .val (.int p5), .val (.int v1), .val (.ref b2), .val (.ref b24), .val (.ref b36), .val (.ref b51), .val (.int r119), .val (.int r121), .val (.int r124), .val (.int r126), .val (.ref b127), .unset] [(.ref b127)])) _
    refine XS.iconst X144.here hx rfl (hb hby at_295) ?_
    show Steps p.tables e below (T144.setTop (mkF m 296 #[.val (.int p1), .val (.int p2), .val (.int p3), .val (.int p4), .val (.int p5), .val (.int v1), .val (.ref b2), .val (.ref b24), .val (.ref b36), .val (.ref b51), .val (.int r119), .val (.int r121), .val (.int r124), .val (.int r126), .val (.ref b127), .unset] [(.int (1 : Int32)), (.ref b127)])) _
    refine XS.iconst X144.here hx rfl (hb hby at_296) ?_
    show Steps p.tables e below (T144.setTop (mkF m 297 #[.val (.int p1), .val (.int p2), .val (.int p3), .val (.int p4), .val (.int p5), .val (.int v1), .val (.ref b2), .val (.ref b24), .val (.ref b36), .val (.ref b51), .val (.int r119), .val (.int r121), .val (.int r124), .val (.int r126), .val (.ref b127), .unset] [(.int (1 : Int32)), (.int (1 : Int32)), (.ref b127)])) _
    refine XS.iload X144.here hx rfl (hb hby at_297) rfl ?_
    exact ktx
  obtain ⟨v150, hv_v150, go151⟩ : ∃ (v150 : Int32), v150 = (if (1 : Int32) < v1 then (1 : Int32) else (0 : Int32)) ∧ own_go p e below (s₁.setTop (entryFrame m #[(.int p1), (.int p2), (.int p3), (.int p4), (.int p5)] maxLocals)) (T144.setTop (mkF m 307 #[.val (.int p1), .val (.int p2), .val (.int p3), .val (.int p4), .val (.int p5), .val (.int v1), .val (.ref b2), .val (.ref b24), .val (.ref b36), .val (.ref b51), .val (.int r119), .val (.int r121), .val (.int r124), .val (.int r126), .val (.ref b127), .unset] [(.int v150), (.int (1 : Int32)), (.ref b127)])) := by
    by_cases hc147_299 : (1 : Int32) < v1
    · have go148 : own_go p e below (s₁.setTop (entryFrame m #[(.int p1), (.int p2), (.int p3), (.int p4), (.int p5)] maxLocals)) (T144.setTop (mkF m 307 #[.val (.int p1), .val (.int p2), .val (.int p3), .val (.int p4), .val (.int p5), .val (.int v1), .val (.ref b2), .val (.ref b24), .val (.ref b36), .val (.ref b51), .val (.int r119), .val (.int r121), .val (.int r124), .val (.int r126), .val (.ref b127), .unset] [(.int (1 : Int32)), (.int (1 : Int32)), (.ref b127)])) := by
        intro ttx ktx
        refine go146 ttx ?_
        show Steps p.tables e below (T144.setTop (mkF m 299 #[.val (.int p1), .val (.int p2), .val (.int p3), .val (.int p4), .val (.int p5), .val (.int v1), .val (.ref b2), .val (.ref b24), .val (.ref b36), .val (.ref b51), .val (.int r119), .val (.int r121), .val (.int r124), .val (.int r126), .val (.ref b127), .unset] [(.int v1), (.int (1 : Int32)), (.int (1 : Int32)), (.ref b127)])) _
        refine XS.icmpNo X144.here hx rfl (hb hby at_299) rfl (tlt hc147_299).2.1 ?_
        show Steps p.tables e below (T144.setTop (mkF m 302 #[.val (.int p1), .val (.int p2), .val (.int p3), .val (.int p4), .val (.int p5), .val (.int v1), .val (.ref b2), .val (.ref b24), .val (.ref b36), .val (.ref b51), .val (.int r119), .val (.int r121), .val (.int r124), .val (.int r126), .val (.ref b127), .unset] [(.int (1 : Int32)), (.ref b127)])) _
        refine XS.iconst X144.here hx rfl (hb hby at_302) ?_
        show Steps p.tables e below (T144.setTop (mkF m 303 #[.val (.int p1), .val (.int p2), .val (.int p3), .val (.int p4), .val (.int p5), .val (.int v1), .val (.ref b2), .val (.ref b24), .val (.ref b36), .val (.ref b51), .val (.int r119), .val (.int r121), .val (.int r124), .val (.int r126), .val (.ref b127), .unset] [(.int (1 : Int32)), (.int (1 : Int32)), (.ref b127)])) _
        refine XS.goto X144.here hx rfl (pc0 := 303) (pc' := 307) rfl (hb hby at_303) (by decide) (by decide) ?_
        exact ktx
      exact ⟨_, (if_pos hc147_299).symm, go148⟩
    · have go149 : own_go p e below (s₁.setTop (entryFrame m #[(.int p1), (.int p2), (.int p3), (.int p4), (.int p5)] maxLocals)) (T144.setTop (mkF m 307 #[.val (.int p1), .val (.int p2), .val (.int p3), .val (.int p4), .val (.int p5), .val (.int v1), .val (.ref b2), .val (.ref b24), .val (.ref b36), .val (.ref b51), .val (.int r119), .val (.int r121), .val (.int r124), .val (.int r126), .val (.ref b127), .unset] [(.int (0 : Int32)), (.int (1 : Int32)), (.ref b127)])) := by
        intro ttx ktx
        refine go146 ttx ?_
        show Steps p.tables e below (T144.setTop (mkF m 299 #[.val (.int p1), .val (.int p2), .val (.int p3), .val (.int p4), .val (.int p5), .val (.int v1), .val (.ref b2), .val (.ref b24), .val (.ref b36), .val (.ref b51), .val (.int r119), .val (.int r121), .val (.int r124), .val (.int r126), .val (.ref b127), .unset] [(.int v1), (.int (1 : Int32)), (.int (1 : Int32)), (.ref b127)])) _
        refine XS.icmpYes X144.here hx rfl (pc0 := 299) (pc' := 306) rfl (hb hby at_299) rfl (flt hc147_299).2.1 (by decide) (by decide) ?_
        show Steps p.tables e below (T144.setTop (mkF m 306 #[.val (.int p1), .val (.int p2), .val (.int p3), .val (.int p4), .val (.int p5), .val (.int v1), .val (.ref b2), .val (.ref b24), .val (.ref b36), .val (.ref b51), .val (.int r119), .val (.int r121), .val (.int r124), .val (.int r126), .val (.ref b127), .unset] [(.int (1 : Int32)), (.ref b127)])) _
        refine XS.iconst X144.here hx rfl (hb hby at_306) ?_
        exact ktx
      exact ⟨_, (if_neg hc147_299).symm, go149⟩
  have f152 := (f138.other W144 ne129)
  obtain ⟨cl153, Ar153, q153, S153, M153, H153, G153⟩ := id f152
  have hin153 : ¬ ((1 : Int32) < 0 ∨ cl153.slots.size ≤ ((1 : Int32)).toNatClampNeg) := inb_of S153 ⟨by decide, by decide⟩
  have hat153 : cl153.slots[((1 : Int32)).toNatClampNeg]? = some (.int v28) := Has.at H153 hin153 rfl
  have f154 := (f140.other W144 ne130)
  obtain ⟨cl155, Ar155, q155, S155, M155, H155, G155⟩ := id f154
  have hin155 : ¬ ((1 : Int32) < 0 ∨ cl155.slots.size ≤ ((1 : Int32)).toNatClampNeg) := inb_of S155 ⟨by decide, by decide⟩
  have hat155 : cl155.slots[((1 : Int32)).toNatClampNeg]? = some (.int v43) := Has.at H155 hin155 rfl
  obtain ⟨_, _, ⟨T156, L156, k156, n156⟩, -, X156, ⟨Lc156, hQ156, l156, y156, z156⟩, st156⟩ := Jvm.LawKit.callS X144 hx (y := (⟨"io/subjectwire/auth/Crc16OfPinLaw", "pick", "(ZBB)B"⟩ : MethodName)) hown (mvT hZ (hw _ (List.mem_of_getElem? (i := 11) rfl))) (mvT hZ (hw _ (List.mem_of_getElem? (i := 12) rfl))) (mvT hZ (hw _ (List.mem_of_getElem? (i := 3) rfl))) (mvT hZ (hw _ (List.mem_of_getElem? (i := 13) rfl))) (by decide) (backOf (W := 2) (rm3 l Z a0 hw [] v150 v28 v43  h144 n0 Z144 ) hZ (hw _ (List.mem_of_getElem? (i := 13) rfl)) (hw _ (List.mem_of_getElem? (i := 3) rfl)) (by decide) (by decide)) (g := (mkF m 315 #[.val (.int p1), .val (.int p2), .val (.int p3), .val (.int p4), .val (.int p5), .val (.int v1), .val (.ref b2), .val (.ref b24), .val (.ref b36), .val (.ref b51), .val (.int r119), .val (.int r121), .val (.int r124), .val (.int r126), .val (.ref b127), .unset] [(.int v43), (.int v28), (.int v150), (.int (1 : Int32)), (.ref b127)])) rfl (by rw [hml]; rfl) (argsL := [(.int v150), (.int v28), (.int v43)]) (rest := [(.int (1 : Int32)), (.ref b127)]) (lenOf own_pd2 rfl) rfl (by show 2 * 0 + _ ≤ _; exact Nat.le_of_eq rfl) (hb hby at_315) (fun _ _ => ⟨rfl, e144, (by decide : 5 + 0 ≤ _), (by decide : 43 + 0 ≤ _)⟩)
  dsimp only [Pt.U, Pt.locs, Pt.cells, Pt.slots] at X156 l156 y156 z156 st156 hQ156
  rw [l156, y156, z156] at X156
  obtain ⟨rfl, Nq156, e156⟩ := hQ156
  have N156 := Fr.app N144 Nq156
  obtain ⟨cl157, Ar157, q157, S157, M157, H157, G157⟩ := id V144
  have hin157 : ¬ ((1 : Int32) < 0 ∨ cl157.slots.size ≤ ((1 : Int32)).toNatClampNeg) := inb_of S157 ⟨by decide, by decide⟩
  obtain ⟨T158, h158, X158, e158, W158, st158⟩ := stB X156 hx hZ e156 Ar157 (j := (1 : Int32)) hin157 (g := (mkF m 318 #[.val (.int p1), .val (.int p2), .val (.int p3), .val (.int p4), .val (.int p5), .val (.int v1), .val (.ref b2), .val (.ref b24), .val (.ref b36), .val (.ref b51), .val (.int r119), .val (.int r121), .val (.int r124), .val (.int r126), .val (.ref b127), .unset] [(.int (nar .byte (if v150 = (0 : Int32) then v43 else v28))), (.int (1 : Int32)), (.ref b127)])) rfl rfl (hb hby at_318)
  have Z158 : n0 ≤ h158.size := Nat.le_trans Z144 (Nat.le_of_eq W158.size.symm)
  have N158 := Fr.snoc X158 N156 g_b127
  have V158 : Arv Z h158 b127 k127 .byte (10 : Int32) [(.int v145), (.int ((nar .byte (if v150 = (0 : Int32) then v43 else v28)).toInt8.toInt32)), (.int (0 : Int32)), (.int (0 : Int32)), (.int (0 : Int32)), (.int (0 : Int32)), (.int (0 : Int32)), (.int (0 : Int32)), (.int (0 : Int32)), (.int (0 : Int32))] (.int (0 : Int32)) := Arv.set Ar157 q157 S157 M157 H157 G157 (fits_nar_byte _) W158 1 rfl (Nat.le_of_ble_eq_true rfl)
  obtain ⟨v159, hv_v159⟩ : ∃ z : Int32, z = ((nar .byte (if v150 = (0 : Int32) then v43 else v28)).toInt8.toInt32) := ⟨_, rfl⟩
  rw [← hv_v159] at V158
  have go160 : own_go p e below (s₁.setTop (entryFrame m #[(.int p1), (.int p2), (.int p3), (.int p4), (.int p5)] maxLocals)) (T158.setTop (mkF m 325 #[.val (.int p1), .val (.int p2), .val (.int p3), .val (.int p4), .val (.int p5), .val (.int v1), .val (.ref b2), .val (.ref b24), .val (.ref b36), .val (.ref b51), .val (.int r119), .val (.int r121), .val (.int r124), .val (.int r126), .val (.ref b127), .unset] [(.int v1), (.int (2 : Int32)), (.int (2 : Int32)), (.ref b127)])) := by
    intro ttx ktx
    refine go151 ttx ?_
    show Steps p.tables e below (T144.setTop (mkF m 307 #[.val (.int p1), .val (.int p2), .val (.int p3), .val (.int p4), .val (.int p5), .val (.int v1), .val (.ref b2), .val (.ref b24), .val (.ref b36), .val (.ref b51), .val (.int r119), .val (.int r121), .val (.int r124), .val (.int r126), .val (.ref b127), .unset] [(.int v150), (.int (1 : Int32)), (.ref b127)])) _
    refine XS.aload X144.here hx rfl (hb hby at_307) rfl rfl ?_
    show Steps p.tables e below (T144.setTop (mkF m 309 #[.val (.int p1), .val (.int p2), .val (.int p3), .val (.int p4), .val (.int p5), .val (.int v1), .val (.ref b2), .val (.ref b24), .val (.ref b36), .val (.ref b51), .val (.int r119), .val (.int r121), .val (.int r124), .val (.int r126), .val (.ref b127), .unset] [(.ref b24), (.int v150), (.int (1 : Int32)), (.ref b127)])) _
    refine XS.iconst X144.here hx rfl (hb hby at_309) ?_
    show Steps p.tables e below (T144.setTop (mkF m 310 #[.val (.int p1), .val (.int p2), .val (.int p3), .val (.int p4), .val (.int p5), .val (.int v1), .val (.ref b2), .val (.ref b24), .val (.ref b36), .val (.ref b51), .val (.int r119), .val (.int r121), .val (.int r124), .val (.int r126), .val (.ref b127), .unset] [(.int (1 : Int32)), (.ref b24), (.int v150), (.int (1 : Int32)), (.ref b127)])) _
    refine X144.baloadBytes hx (j := (1 : Int32)) (v := (.int v28)) (own_hp e144 Ar153.1) (State.isArrayOf_alike hZ.alike Ar153.2.1) Ar153.2.2 hin153 hat153 (g := (mkF m 310 #[.val (.int p1), .val (.int p2), .val (.int p3), .val (.int p4), .val (.int p5), .val (.int v1), .val (.ref b2), .val (.ref b24), .val (.ref b36), .val (.ref b51), .val (.int r119), .val (.int r121), .val (.int r124), .val (.int r126), .val (.ref b127), .unset] [(.int (1 : Int32)), (.ref b24), (.int v150), (.int (1 : Int32)), (.ref b127)])) rfl rfl (hb hby at_310) _ ?_
    show Steps p.tables e below (T144.setTop (mkF m 311 #[.val (.int p1), .val (.int p2), .val (.int p3), .val (.int p4), .val (.int p5), .val (.int v1), .val (.ref b2), .val (.ref b24), .val (.ref b36), .val (.ref b51), .val (.int r119), .val (.int r121), .val (.int r124), .val (.int r126), .val (.ref b127), .unset] [(.int v28), (.int v150), (.int (1 : Int32)), (.ref b127)])) _
    refine XS.aload X144.here hx rfl (hb hby at_311) rfl rfl ?_
    show Steps p.tables e below (T144.setTop (mkF m 313 #[.val (.int p1), .val (.int p2), .val (.int p3), .val (.int p4), .val (.int p5), .val (.int v1), .val (.ref b2), .val (.ref b24), .val (.ref b36), .val (.ref b51), .val (.int r119), .val (.int r121), .val (.int r124), .val (.int r126), .val (.ref b127), .unset] [(.ref b36), (.int v28), (.int v150), (.int (1 : Int32)), (.ref b127)])) _
    refine XS.iconst X144.here hx rfl (hb hby at_313) ?_
    show Steps p.tables e below (T144.setTop (mkF m 314 #[.val (.int p1), .val (.int p2), .val (.int p3), .val (.int p4), .val (.int p5), .val (.int v1), .val (.ref b2), .val (.ref b24), .val (.ref b36), .val (.ref b51), .val (.int r119), .val (.int r121), .val (.int r124), .val (.int r126), .val (.ref b127), .unset] [(.int (1 : Int32)), (.ref b36), (.int v28), (.int v150), (.int (1 : Int32)), (.ref b127)])) _
    refine X144.baloadBytes hx (j := (1 : Int32)) (v := (.int v43)) (own_hp e144 Ar155.1) (State.isArrayOf_alike hZ.alike Ar155.2.1) Ar155.2.2 hin155 hat155 (g := (mkF m 314 #[.val (.int p1), .val (.int p2), .val (.int p3), .val (.int p4), .val (.int p5), .val (.int v1), .val (.ref b2), .val (.ref b24), .val (.ref b36), .val (.ref b51), .val (.int r119), .val (.int r121), .val (.int r124), .val (.int r126), .val (.ref b127), .unset] [(.int (1 : Int32)), (.ref b36), (.int v28), (.int v150), (.int (1 : Int32)), (.ref b127)])) rfl rfl (hb hby at_314) _ ?_
    show Steps p.tables e below (T144.setTop (mkF m 315 #[.val (.int p1), .val (.int p2), .val (.int p3), .val (.int p4), .val (.int p5), .val (.int v1), .val (.ref b2), .val (.ref b24), .val (.ref b36), .val (.ref b51), .val (.int r119), .val (.int r121), .val (.int r124), .val (.int r126), .val (.ref b127), .unset] [(.int v43), (.int v28), (.int v150), (.int (1 : Int32)), (.ref b127)])) _
    refine st156 _ ?_
    show Steps p.tables e below (T156.setTop (mkF m 318 #[.val (.int p1), .val (.int p2), .val (.int p3), .val (.int p4), .val (.int p5), .val (.int v1), .val (.ref b2), .val (.ref b24), .val (.ref b36), .val (.ref b51), .val (.int r119), .val (.int r121), .val (.int r124), .val (.int r126), .val (.ref b127), .unset] [(.int (nar .byte (if v150 = (0 : Int32) then v43 else v28))), (.int (1 : Int32)), (.ref b127)])) _
    refine st158 _ ?_
    show Steps p.tables e below (T158.setTop (mkF m 319 #[.val (.int p1), .val (.int p2), .val (.int p3), .val (.int p4), .val (.int p5), .val (.int v1), .val (.ref b2), .val (.ref b24), .val (.ref b36), .val (.ref b51), .val (.int r119), .val (.int r121), .val (.int r124), .val (.int r126), .val (.ref b127), .unset] [])) _
    refine XS.aload X158.here hx rfl (hb hby at_319) rfl rfl ?_
    show Steps p.tables e below (T158.setTop (mkF m 321 #[.val (.int p1), .val (.int p2), .val (.int p3), .val (.int p4), .val (.int p5), .val (.int v1), .val (.ref b2), .val (.ref b24), .val (.ref b36), .val (.ref b51), .val (.int r119), .val (.int r121), .val (.int r124), .val (.int r126), .val (.ref b127), .unset] [(.ref b127)])) _
    refine XS.iconst X158.here hx rfl (hb hby at_321) ?_
    show Steps p.tables e below (T158.setTop (mkF m 322 #[.val (.int p1), .val (.int p2), .val (.int p3), .val (.int p4), .val (.int p5), .val (.int v1), .val (.ref b2), .val (.ref b24), .val (.ref b36), .val (.ref b51), .val (.int r119), .val (.int r121), .val (.int r124), .val (.int r126), .val (.ref b127), .unset] [(.int (2 : Int32)), (.ref b127)])) _
    refine XS.iconst X158.here hx rfl (hb hby at_322) ?_
    show Steps p.tables e below (T158.setTop (mkF m 323 #[.val (.int p1), .val (.int p2), .val (.int p3), .val (.int p4), .val (.int p5), .val (.int v1), .val (.ref b2), .val (.ref b24), .val (.ref b36), .val (.ref b51), .val (.int r119), .val (.int r121), .val (.int r124), .val (.int r126), .val (.ref b127), .unset] [(.int (2 : Int32)), (.int (2 : Int32)), (.ref b127)])) _
    refine XS.iload X158.here hx rfl (hb hby at_323) rfl ?_
    exact ktx
  obtain ⟨v164, hv_v164, go165⟩ : ∃ (v164 : Int32), v164 = (if (2 : Int32) < v1 then (1 : Int32) else (0 : Int32)) ∧ own_go p e below (s₁.setTop (entryFrame m #[(.int p1), (.int p2), (.int p3), (.int p4), (.int p5)] maxLocals)) (T158.setTop (mkF m 333 #[.val (.int p1), .val (.int p2), .val (.int p3), .val (.int p4), .val (.int p5), .val (.int v1), .val (.ref b2), .val (.ref b24), .val (.ref b36), .val (.ref b51), .val (.int r119), .val (.int r121), .val (.int r124), .val (.int r126), .val (.ref b127), .unset] [(.int v164), (.int (2 : Int32)), (.ref b127)])) := by
    by_cases hc161_325 : (2 : Int32) < v1
    · have go162 : own_go p e below (s₁.setTop (entryFrame m #[(.int p1), (.int p2), (.int p3), (.int p4), (.int p5)] maxLocals)) (T158.setTop (mkF m 333 #[.val (.int p1), .val (.int p2), .val (.int p3), .val (.int p4), .val (.int p5), .val (.int v1), .val (.ref b2), .val (.ref b24), .val (.ref b36), .val (.ref b51), .val (.int r119), .val (.int r121), .val (.int r124), .val (.int r126), .val (.ref b127), .unset] [(.int (1 : Int32)), (.int (2 : Int32)), (.ref b127)])) := by
        intro ttx ktx
        refine go160 ttx ?_
        show Steps p.tables e below (T158.setTop (mkF m 325 #[.val (.int p1), .val (.int p2), .val (.int p3), .val (.int p4), .val (.int p5), .val (.int v1), .val (.ref b2), .val (.ref b24), .val (.ref b36), .val (.ref b51), .val (.int r119), .val (.int r121), .val (.int r124), .val (.int r126), .val (.ref b127), .unset] [(.int v1), (.int (2 : Int32)), (.int (2 : Int32)), (.ref b127)])) _
        refine XS.icmpNo X158.here hx rfl (hb hby at_325) rfl (tlt hc161_325).2.1 ?_
        show Steps p.tables e below (T158.setTop (mkF m 328 #[.val (.int p1), .val (.int p2), .val (.int p3), .val (.int p4), .val (.int p5), .val (.int v1), .val (.ref b2), .val (.ref b24), .val (.ref b36), .val (.ref b51), .val (.int r119), .val (.int r121), .val (.int r124), .val (.int r126), .val (.ref b127), .unset] [(.int (2 : Int32)), (.ref b127)])) _
        refine XS.iconst X158.here hx rfl (hb hby at_328) ?_
        show Steps p.tables e below (T158.setTop (mkF m 329 #[.val (.int p1), .val (.int p2), .val (.int p3), .val (.int p4), .val (.int p5), .val (.int v1), .val (.ref b2), .val (.ref b24), .val (.ref b36), .val (.ref b51), .val (.int r119), .val (.int r121), .val (.int r124), .val (.int r126), .val (.ref b127), .unset] [(.int (1 : Int32)), (.int (2 : Int32)), (.ref b127)])) _
        refine XS.goto X158.here hx rfl (pc0 := 329) (pc' := 333) rfl (hb hby at_329) (by decide) (by decide) ?_
        exact ktx
      exact ⟨_, (if_pos hc161_325).symm, go162⟩
    · have go163 : own_go p e below (s₁.setTop (entryFrame m #[(.int p1), (.int p2), (.int p3), (.int p4), (.int p5)] maxLocals)) (T158.setTop (mkF m 333 #[.val (.int p1), .val (.int p2), .val (.int p3), .val (.int p4), .val (.int p5), .val (.int v1), .val (.ref b2), .val (.ref b24), .val (.ref b36), .val (.ref b51), .val (.int r119), .val (.int r121), .val (.int r124), .val (.int r126), .val (.ref b127), .unset] [(.int (0 : Int32)), (.int (2 : Int32)), (.ref b127)])) := by
        intro ttx ktx
        refine go160 ttx ?_
        show Steps p.tables e below (T158.setTop (mkF m 325 #[.val (.int p1), .val (.int p2), .val (.int p3), .val (.int p4), .val (.int p5), .val (.int v1), .val (.ref b2), .val (.ref b24), .val (.ref b36), .val (.ref b51), .val (.int r119), .val (.int r121), .val (.int r124), .val (.int r126), .val (.ref b127), .unset] [(.int v1), (.int (2 : Int32)), (.int (2 : Int32)), (.ref b127)])) _
        refine XS.icmpYes X158.here hx rfl (pc0 := 325) (pc' := 332) rfl (hb hby at_325) rfl (flt hc161_325).2.1 (by decide) (by decide) ?_
        show Steps p.tables e below (T158.setTop (mkF m 332 #[.val (.int p1), .val (.int p2), .val (.int p3), .val (.int p4), .val (.int p5), .val (.int v1), .val (.ref b2), .val (.ref b24), .val (.ref b36), .val (.ref b51), .val (.int r119), .val (.int r121), .val (.int r124), .val (.int r126), .val (.ref b127), .unset] [(.int (2 : Int32)), (.ref b127)])) _
        refine XS.iconst X158.here hx rfl (hb hby at_332) ?_
        exact ktx
      exact ⟨_, (if_neg hc161_325).symm, go163⟩
  have f166 := (f152.other W158 ne129)
  obtain ⟨cl167, Ar167, q167, S167, M167, H167, G167⟩ := id f166
  have hin167 : ¬ ((2 : Int32) < 0 ∨ cl167.slots.size ≤ ((2 : Int32)).toNatClampNeg) := inb_of S167 ⟨by decide, by decide⟩
  have hat167 : cl167.slots[((2 : Int32)).toNatClampNeg]? = some (.int v29) := Has.at H167 hin167 rfl
  have f168 := (f154.other W158 ne130)
  obtain ⟨cl169, Ar169, q169, S169, M169, H169, G169⟩ := id f168
  have hin169 : ¬ ((2 : Int32) < 0 ∨ cl169.slots.size ≤ ((2 : Int32)).toNatClampNeg) := inb_of S169 ⟨by decide, by decide⟩
  have hat169 : cl169.slots[((2 : Int32)).toNatClampNeg]? = some (.int v44) := Has.at H169 hin169 rfl
  obtain ⟨_, _, ⟨T170, L170, k170, n170⟩, -, X170, ⟨Lc170, hQ170, l170, y170, z170⟩, st170⟩ := Jvm.LawKit.callS X158 hx (y := (⟨"io/subjectwire/auth/Crc16OfPinLaw", "pick", "(ZBB)B"⟩ : MethodName)) hown (mvT hZ (hw _ (List.mem_of_getElem? (i := 11) rfl))) (mvT hZ (hw _ (List.mem_of_getElem? (i := 12) rfl))) (mvT hZ (hw _ (List.mem_of_getElem? (i := 3) rfl))) (mvT hZ (hw _ (List.mem_of_getElem? (i := 13) rfl))) (by decide) (backOf (W := 2) (rm3 l Z a0 hw [] v164 v29 v44  h158 n0 Z158 ) hZ (hw _ (List.mem_of_getElem? (i := 13) rfl)) (hw _ (List.mem_of_getElem? (i := 3) rfl)) (by decide) (by decide)) (g := (mkF m 341 #[.val (.int p1), .val (.int p2), .val (.int p3), .val (.int p4), .val (.int p5), .val (.int v1), .val (.ref b2), .val (.ref b24), .val (.ref b36), .val (.ref b51), .val (.int r119), .val (.int r121), .val (.int r124), .val (.int r126), .val (.ref b127), .unset] [(.int v44), (.int v29), (.int v164), (.int (2 : Int32)), (.ref b127)])) rfl (by rw [hml]; rfl) (argsL := [(.int v164), (.int v29), (.int v44)]) (rest := [(.int (2 : Int32)), (.ref b127)]) (lenOf own_pd2 rfl) rfl (by show 2 * 0 + _ ≤ _; exact Nat.le_of_eq rfl) (hb hby at_341) (fun _ _ => ⟨rfl, e158, (by decide : 5 + 0 ≤ _), (by decide : 43 + 0 ≤ _)⟩)
  dsimp only [Pt.U, Pt.locs, Pt.cells, Pt.slots] at X170 l170 y170 z170 st170 hQ170
  rw [l170, y170, z170] at X170
  obtain ⟨rfl, Nq170, e170⟩ := hQ170
  have N170 := Fr.app N158 Nq170
  obtain ⟨cl171, Ar171, q171, S171, M171, H171, G171⟩ := id V158
  have hin171 : ¬ ((2 : Int32) < 0 ∨ cl171.slots.size ≤ ((2 : Int32)).toNatClampNeg) := inb_of S171 ⟨by decide, by decide⟩
  obtain ⟨T172, h172, X172, e172, W172, st172⟩ := stB X170 hx hZ e170 Ar171 (j := (2 : Int32)) hin171 (g := (mkF m 344 #[.val (.int p1), .val (.int p2), .val (.int p3), .val (.int p4), .val (.int p5), .val (.int v1), .val (.ref b2), .val (.ref b24), .val (.ref b36), .val (.ref b51), .val (.int r119), .val (.int r121), .val (.int r124), .val (.int r126), .val (.ref b127), .unset] [(.int (nar .byte (if v164 = (0 : Int32) then v44 else v29))), (.int (2 : Int32)), (.ref b127)])) rfl rfl (hb hby at_344)
  have Z172 : n0 ≤ h172.size := Nat.le_trans Z158 (Nat.le_of_eq W172.size.symm)
  have N172 := Fr.snoc X172 N170 g_b127
  have V172 : Arv Z h172 b127 k127 .byte (10 : Int32) [(.int v145), (.int v159), (.int ((nar .byte (if v164 = (0 : Int32) then v44 else v29)).toInt8.toInt32)), (.int (0 : Int32)), (.int (0 : Int32)), (.int (0 : Int32)), (.int (0 : Int32)), (.int (0 : Int32)), (.int (0 : Int32)), (.int (0 : Int32))] (.int (0 : Int32)) := Arv.set Ar171 q171 S171 M171 H171 G171 (fits_nar_byte _) W172 2 rfl (Nat.le_of_ble_eq_true rfl)
  obtain ⟨v173, hv_v173⟩ : ∃ z : Int32, z = ((nar .byte (if v164 = (0 : Int32) then v44 else v29)).toInt8.toInt32) := ⟨_, rfl⟩
  rw [← hv_v173] at V172
  have go174 : own_go p e below (s₁.setTop (entryFrame m #[(.int p1), (.int p2), (.int p3), (.int p4), (.int p5)] maxLocals)) (T172.setTop (mkF m 351 #[.val (.int p1), .val (.int p2), .val (.int p3), .val (.int p4), .val (.int p5), .val (.int v1), .val (.ref b2), .val (.ref b24), .val (.ref b36), .val (.ref b51), .val (.int r119), .val (.int r121), .val (.int r124), .val (.int r126), .val (.ref b127), .unset] [(.int v1), (.int (3 : Int32)), (.int (3 : Int32)), (.ref b127)])) := by
    intro ttx ktx
    refine go165 ttx ?_
    show Steps p.tables e below (T158.setTop (mkF m 333 #[.val (.int p1), .val (.int p2), .val (.int p3), .val (.int p4), .val (.int p5), .val (.int v1), .val (.ref b2), .val (.ref b24), .val (.ref b36), .val (.ref b51), .val (.int r119), .val (.int r121), .val (.int r124), .val (.int r126), .val (.ref b127), .unset] [(.int v164), (.int (2 : Int32)), (.ref b127)])) _
    refine XS.aload X158.here hx rfl (hb hby at_333) rfl rfl ?_
    show Steps p.tables e below (T158.setTop (mkF m 335 #[.val (.int p1), .val (.int p2), .val (.int p3), .val (.int p4), .val (.int p5), .val (.int v1), .val (.ref b2), .val (.ref b24), .val (.ref b36), .val (.ref b51), .val (.int r119), .val (.int r121), .val (.int r124), .val (.int r126), .val (.ref b127), .unset] [(.ref b24), (.int v164), (.int (2 : Int32)), (.ref b127)])) _
    refine XS.iconst X158.here hx rfl (hb hby at_335) ?_
    show Steps p.tables e below (T158.setTop (mkF m 336 #[.val (.int p1), .val (.int p2), .val (.int p3), .val (.int p4), .val (.int p5), .val (.int v1), .val (.ref b2), .val (.ref b24), .val (.ref b36), .val (.ref b51), .val (.int r119), .val (.int r121), .val (.int r124), .val (.int r126), .val (.ref b127), .unset] [(.int (2 : Int32)), (.ref b24), (.int v164), (.int (2 : Int32)), (.ref b127)])) _
    refine X158.baloadBytes hx (j := (2 : Int32)) (v := (.int v29)) (own_hp e158 Ar167.1) (State.isArrayOf_alike hZ.alike Ar167.2.1) Ar167.2.2 hin167 hat167 (g := (mkF m 336 #[.val (.int p1), .val (.int p2), .val (.int p3), .val (.int p4), .val (.int p5), .val (.int v1), .val (.ref b2), .val (.ref b24), .val (.ref b36), .val (.ref b51), .val (.int r119), .val (.int r121), .val (.int r124), .val (.int r126), .val (.ref b127), .unset] [(.int (2 : Int32)), (.ref b24), (.int v164), (.int (2 : Int32)), (.ref b127)])) rfl rfl (hb hby at_336) _ ?_
    show Steps p.tables e below (T158.setTop (mkF m 337 #[.val (.int p1), .val (.int p2), .val (.int p3), .val (.int p4), .val (.int p5), .val (.int v1), .val (.ref b2), .val (.ref b24), .val (.ref b36), .val (.ref b51), .val (.int r119), .val (.int r121), .val (.int r124), .val (.int r126), .val (.ref b127), .unset] [(.int v29), (.int v164), (.int (2 : Int32)), (.ref b127)])) _
    refine XS.aload X158.here hx rfl (hb hby at_337) rfl rfl ?_
    show Steps p.tables e below (T158.setTop (mkF m 339 #[.val (.int p1), .val (.int p2), .val (.int p3), .val (.int p4), .val (.int p5), .val (.int v1), .val (.ref b2), .val (.ref b24), .val (.ref b36), .val (.ref b51), .val (.int r119), .val (.int r121), .val (.int r124), .val (.int r126), .val (.ref b127), .unset] [(.ref b36), (.int v29), (.int v164), (.int (2 : Int32)), (.ref b127)])) _
    refine XS.iconst X158.here hx rfl (hb hby at_339) ?_
    show Steps p.tables e below (T158.setTop (mkF m 340 #[.val (.int p1), .val (.int p2), .val (.int p3), .val (.int p4), .val (.int p5), .val (.int v1), .val (.ref b2), .val (.ref b24), .val (.ref b36), .val (.ref b51), .val (.int r119), .val (.int r121), .val (.int r124), .val (.int r126), .val (.ref b127), .unset] [(.int (2 : Int32)), (.ref b36), (.int v29), (.int v164), (.int (2 : Int32)), (.ref b127)])) _
    refine X158.baloadBytes hx (j := (2 : Int32)) (v := (.int v44)) (own_hp e158 Ar169.1) (State.isArrayOf_alike hZ.alike Ar169.2.1) Ar169.2.2 hin169 hat169 (g := (mkF m 340 #[.val (.int p1), .val (.int p2), .val (.int p3), .val (.int p4), .val (.int p5), .val (.int v1), .val (.ref b2), .val (.ref b24), .val (.ref b36), .val (.ref b51), .val (.int r119), .val (.int r121), .val (.int r124), .val (.int r126), .val (.ref b127), .unset] [(.int (2 : Int32)), (.ref b36), (.int v29), (.int v164), (.int (2 : Int32)), (.ref b127)])) rfl rfl (hb hby at_340) _ ?_
    show Steps p.tables e below (T158.setTop (mkF m 341 #[.val (.int p1), .val (.int p2), .val (.int p3), .val (.int p4), .val (.int p5), .val (.int v1), .val (.ref b2), .val (.ref b24), .val (.ref b36), .val (.ref b51), .val (.int r119), .val (.int r121), .val (.int r124), .val (.int r126), .val (.ref b127), .unset] [(.int v44), (.int v29), (.int v164), (.int (2 : Int32)), (.ref b127)])) _
    refine st170 _ ?_
    show Steps p.tables e below (T170.setTop (mkF m 344 #[.val (.int p1), .val (.int p2), .val (.int p3), .val (.int p4), .val (.int p5), .val (.int v1), .val (.ref b2), .val (.ref b24), .val (.ref b36), .val (.ref b51), .val (.int r119), .val (.int r121), .val (.int r124), .val (.int r126), .val (.ref b127), .unset] [(.int (nar .byte (if v164 = (0 : Int32) then v44 else v29))), (.int (2 : Int32)), (.ref b127)])) _
    refine st172 _ ?_
    show Steps p.tables e below (T172.setTop (mkF m 345 #[.val (.int p1), .val (.int p2), .val (.int p3), .val (.int p4), .val (.int p5), .val (.int v1), .val (.ref b2), .val (.ref b24), .val (.ref b36), .val (.ref b51), .val (.int r119), .val (.int r121), .val (.int r124), .val (.int r126), .val (.ref b127), .unset] [])) _
    refine XS.aload X172.here hx rfl (hb hby at_345) rfl rfl ?_
    show Steps p.tables e below (T172.setTop (mkF m 347 #[.val (.int p1), .val (.int p2), .val (.int p3), .val (.int p4), .val (.int p5), .val (.int v1), .val (.ref b2), .val (.ref b24), .val (.ref b36), .val (.ref b51), .val (.int r119), .val (.int r121), .val (.int r124), .val (.int r126), .val (.ref b127), .unset] [(.ref b127)])) _
    refine XS.iconst X172.here hx rfl (hb hby at_347) ?_
    show Steps p.tables e below (T172.setTop (mkF m 348 #[.val (.int p1), .val (.int p2), .val (.int p3), .val (.int p4), .val (.int p5), .val (.int v1), .val (.ref b2), .val (.ref b24), .val (.ref b36), .val (.ref b51), .val (.int r119), .val (.int r121), .val (.int r124), .val (.int r126), .val (.ref b127), .unset] [(.int (3 : Int32)), (.ref b127)])) _
    refine XS.iconst X172.here hx rfl (hb hby at_348) ?_
    show Steps p.tables e below (T172.setTop (mkF m 349 #[.val (.int p1), .val (.int p2), .val (.int p3), .val (.int p4), .val (.int p5), .val (.int v1), .val (.ref b2), .val (.ref b24), .val (.ref b36), .val (.ref b51), .val (.int r119), .val (.int r121), .val (.int r124), .val (.int r126), .val (.ref b127), .unset] [(.int (3 : Int32)), (.int (3 : Int32)), (.ref b127)])) _
    refine XS.iload X172.here hx rfl (hb hby at_349) rfl ?_
    exact ktx
  obtain ⟨v178, hv_v178, go179⟩ : ∃ (v178 : Int32), v178 = (if (3 : Int32) < v1 then (1 : Int32) else (0 : Int32)) ∧ own_go p e below (s₁.setTop (entryFrame m #[(.int p1), (.int p2), (.int p3), (.int p4), (.int p5)] maxLocals)) (T172.setTop (mkF m 359 #[.val (.int p1), .val (.int p2), .val (.int p3), .val (.int p4), .val (.int p5), .val (.int v1), .val (.ref b2), .val (.ref b24), .val (.ref b36), .val (.ref b51), .val (.int r119), .val (.int r121), .val (.int r124), .val (.int r126), .val (.ref b127), .unset] [(.int v178), (.int (3 : Int32)), (.ref b127)])) := by
    by_cases hc175_351 : (3 : Int32) < v1
    · have go176 : own_go p e below (s₁.setTop (entryFrame m #[(.int p1), (.int p2), (.int p3), (.int p4), (.int p5)] maxLocals)) (T172.setTop (mkF m 359 #[.val (.int p1), .val (.int p2), .val (.int p3), .val (.int p4), .val (.int p5), .val (.int v1), .val (.ref b2), .val (.ref b24), .val (.ref b36), .val (.ref b51), .val (.int r119), .val (.int r121), .val (.int r124), .val (.int r126), .val (.ref b127), .unset] [(.int (1 : Int32)), (.int (3 : Int32)), (.ref b127)])) := by
        intro ttx ktx
        refine go174 ttx ?_
        show Steps p.tables e below (T172.setTop (mkF m 351 #[.val (.int p1), .val (.int p2), .val (.int p3), .val (.int p4), .val (.int p5), .val (.int v1), .val (.ref b2), .val (.ref b24), .val (.ref b36), .val (.ref b51), .val (.int r119), .val (.int r121), .val (.int r124), .val (.int r126), .val (.ref b127), .unset] [(.int v1), (.int (3 : Int32)), (.int (3 : Int32)), (.ref b127)])) _
        refine XS.icmpNo X172.here hx rfl (hb hby at_351) rfl (tlt hc175_351).2.1 ?_
        show Steps p.tables e below (T172.setTop (mkF m 354 #[.val (.int p1), .val (.int p2), .val (.int p3), .val (.int p4), .val (.int p5), .val (.int v1), .val (.ref b2), .val (.ref b24), .val (.ref b36), .val (.ref b51), .val (.int r119), .val (.int r121), .val (.int r124), .val (.int r126), .val (.ref b127), .unset] [(.int (3 : Int32)), (.ref b127)])) _
        refine XS.iconst X172.here hx rfl (hb hby at_354) ?_
        show Steps p.tables e below (T172.setTop (mkF m 355 #[.val (.int p1), .val (.int p2), .val (.int p3), .val (.int p4), .val (.int p5), .val (.int v1), .val (.ref b2), .val (.ref b24), .val (.ref b36), .val (.ref b51), .val (.int r119), .val (.int r121), .val (.int r124), .val (.int r126), .val (.ref b127), .unset] [(.int (1 : Int32)), (.int (3 : Int32)), (.ref b127)])) _
        refine XS.goto X172.here hx rfl (pc0 := 355) (pc' := 359) rfl (hb hby at_355) (by decide) (by decide) ?_
        exact ktx
      exact ⟨_, (if_pos hc175_351).symm, go176⟩
    · have go177 : own_go p e below (s₁.setTop (entryFrame m #[(.int p1), (.int p2), (.int p3), (.int p4), (.int p5)] maxLocals)) (T172.setTop (mkF m 359 #[.val (.int p1), .val (.int p2), .val (.int p3), .val (.int p4), .val (.int p5), .val (.int v1), .val (.ref b2), .val (.ref b24), .val (.ref b36), .val (.ref b51), .val (.int r119), .val (.int r121), .val (.int r124), .val (.int r126), .val (.ref b127), .unset] [(.int (0 : Int32)), (.int (3 : Int32)), (.ref b127)])) := by
        intro ttx ktx
        refine go174 ttx ?_
        show Steps p.tables e below (T172.setTop (mkF m 351 #[.val (.int p1), .val (.int p2), .val (.int p3), .val (.int p4), .val (.int p5), .val (.int v1), .val (.ref b2), .val (.ref b24), .val (.ref b36), .val (.ref b51), .val (.int r119), .val (.int r121), .val (.int r124), .val (.int r126), .val (.ref b127), .unset] [(.int v1), (.int (3 : Int32)), (.int (3 : Int32)), (.ref b127)])) _
        refine XS.icmpYes X172.here hx rfl (pc0 := 351) (pc' := 358) rfl (hb hby at_351) rfl (flt hc175_351).2.1 (by decide) (by decide) ?_
        show Steps p.tables e below (T172.setTop (mkF m 358 #[.val (.int p1), .val (.int p2), .val (.int p3), .val (.int p4), .val (.int p5), .val (.int v1), .val (.ref b2), .val (.ref b24), .val (.ref b36), .val (.ref b51), .val (.int r119), .val (.int r121), .val (.int r124), .val (.int r126), .val (.ref b127), .unset] [(.int (3 : Int32)), (.ref b127)])) _
        refine XS.iconst X172.here hx rfl (hb hby at_358) ?_
        exact ktx
      exact ⟨_, (if_neg hc175_351).symm, go177⟩
  have f180 := (f166.other W172 ne129)
  obtain ⟨cl181, Ar181, q181, S181, M181, H181, G181⟩ := id f180
  have hin181 : ¬ ((3 : Int32) < 0 ∨ cl181.slots.size ≤ ((3 : Int32)).toNatClampNeg) := inb_of S181 ⟨by decide, by decide⟩
  have hat181 : cl181.slots[((3 : Int32)).toNatClampNeg]? = some (.int v30) := Has.at H181 hin181 rfl
  have f182 := (f168.other W172 ne130)
  obtain ⟨cl183, Ar183, q183, S183, M183, H183, G183⟩ := id f182
  have hin183 : ¬ ((3 : Int32) < 0 ∨ cl183.slots.size ≤ ((3 : Int32)).toNatClampNeg) := inb_of S183 ⟨by decide, by decide⟩
  have hat183 : cl183.slots[((3 : Int32)).toNatClampNeg]? = some (.int v45) := Has.at H183 hin183 rfl
  obtain ⟨_, _, ⟨T184, L184, k184, n184⟩, -, X184, ⟨Lc184, hQ184, l184, y184, z184⟩, st184⟩ := Jvm.LawKit.callS X172 hx (y := (⟨"io/subjectwire/auth/Crc16OfPinLaw", "pick", "(ZBB)B"⟩ : MethodName)) hown (mvT hZ (hw _ (List.mem_of_getElem? (i := 11) rfl))) (mvT hZ (hw _ (List.mem_of_getElem? (i := 12) rfl))) (mvT hZ (hw _ (List.mem_of_getElem? (i := 3) rfl))) (mvT hZ (hw _ (List.mem_of_getElem? (i := 13) rfl))) (by decide) (backOf (W := 2) (rm3 l Z a0 hw [] v178 v30 v45  h172 n0 Z172 ) hZ (hw _ (List.mem_of_getElem? (i := 13) rfl)) (hw _ (List.mem_of_getElem? (i := 3) rfl)) (by decide) (by decide)) (g := (mkF m 367 #[.val (.int p1), .val (.int p2), .val (.int p3), .val (.int p4), .val (.int p5), .val (.int v1), .val (.ref b2), .val (.ref b24), .val (.ref b36), .val (.ref b51), .val (.int r119), .val (.int r121), .val (.int r124), .val (.int r126), .val (.ref b127), .unset] [(.int v45), (.int v30), (.int v178), (.int (3 : Int32)), (.ref b127)])) rfl (by rw [hml]; rfl) (argsL := [(.int v178), (.int v30), (.int v45)]) (rest := [(.int (3 : Int32)), (.ref b127)]) (lenOf own_pd2 rfl) rfl (by show 2 * 0 + _ ≤ _; exact Nat.le_of_eq rfl) (hb hby at_367) (fun _ _ => ⟨rfl, e172, (by decide : 5 + 0 ≤ _), (by decide : 43 + 0 ≤ _)⟩)
  dsimp only [Pt.U, Pt.locs, Pt.cells, Pt.slots] at X184 l184 y184 z184 st184 hQ184
  rw [l184, y184, z184] at X184
  obtain ⟨rfl, Nq184, e184⟩ := hQ184
  have N184 := Fr.app N172 Nq184
  obtain ⟨cl185, Ar185, q185, S185, M185, H185, G185⟩ := id V172
  have hin185 : ¬ ((3 : Int32) < 0 ∨ cl185.slots.size ≤ ((3 : Int32)).toNatClampNeg) := inb_of S185 ⟨by decide, by decide⟩
  obtain ⟨T186, h186, X186, e186, W186, st186⟩ := stB X184 hx hZ e184 Ar185 (j := (3 : Int32)) hin185 (g := (mkF m 370 #[.val (.int p1), .val (.int p2), .val (.int p3), .val (.int p4), .val (.int p5), .val (.int v1), .val (.ref b2), .val (.ref b24), .val (.ref b36), .val (.ref b51), .val (.int r119), .val (.int r121), .val (.int r124), .val (.int r126), .val (.ref b127), .unset] [(.int (nar .byte (if v178 = (0 : Int32) then v45 else v30))), (.int (3 : Int32)), (.ref b127)])) rfl rfl (hb hby at_370)
  have Z186 : n0 ≤ h186.size := Nat.le_trans Z172 (Nat.le_of_eq W186.size.symm)
  have N186 := Fr.snoc X186 N184 g_b127
  have V186 : Arv Z h186 b127 k127 .byte (10 : Int32) [(.int v145), (.int v159), (.int v173), (.int ((nar .byte (if v178 = (0 : Int32) then v45 else v30)).toInt8.toInt32)), (.int (0 : Int32)), (.int (0 : Int32)), (.int (0 : Int32)), (.int (0 : Int32)), (.int (0 : Int32)), (.int (0 : Int32))] (.int (0 : Int32)) := Arv.set Ar185 q185 S185 M185 H185 G185 (fits_nar_byte _) W186 3 rfl (Nat.le_of_ble_eq_true rfl)
  obtain ⟨v187, hv_v187⟩ : ∃ z : Int32, z = ((nar .byte (if v178 = (0 : Int32) then v45 else v30)).toInt8.toInt32) := ⟨_, rfl⟩
  rw [← hv_v187] at V186
  have go188 : own_go p e below (s₁.setTop (entryFrame m #[(.int p1), (.int p2), (.int p3), (.int p4), (.int p5)] maxLocals)) (T186.setTop (mkF m 377 #[.val (.int p1), .val (.int p2), .val (.int p3), .val (.int p4), .val (.int p5), .val (.int v1), .val (.ref b2), .val (.ref b24), .val (.ref b36), .val (.ref b51), .val (.int r119), .val (.int r121), .val (.int r124), .val (.int r126), .val (.ref b127), .unset] [(.int v1), (.int (4 : Int32)), (.int (4 : Int32)), (.ref b127)])) := by
    intro ttx ktx
    refine go179 ttx ?_
    show Steps p.tables e below (T172.setTop (mkF m 359 #[.val (.int p1), .val (.int p2), .val (.int p3), .val (.int p4), .val (.int p5), .val (.int v1), .val (.ref b2), .val (.ref b24), .val (.ref b36), .val (.ref b51), .val (.int r119), .val (.int r121), .val (.int r124), .val (.int r126), .val (.ref b127), .unset] [(.int v178), (.int (3 : Int32)), (.ref b127)])) _
    refine XS.aload X172.here hx rfl (hb hby at_359) rfl rfl ?_
    show Steps p.tables e below (T172.setTop (mkF m 361 #[.val (.int p1), .val (.int p2), .val (.int p3), .val (.int p4), .val (.int p5), .val (.int v1), .val (.ref b2), .val (.ref b24), .val (.ref b36), .val (.ref b51), .val (.int r119), .val (.int r121), .val (.int r124), .val (.int r126), .val (.ref b127), .unset] [(.ref b24), (.int v178), (.int (3 : Int32)), (.ref b127)])) _
    refine XS.iconst X172.here hx rfl (hb hby at_361) ?_
    show Steps p.tables e below (T172.setTop (mkF m 362 #[.val (.int p1), .val (.int p2), .val (.int p3), .val (.int p4), .val (.int p5), .val (.int v1), .val (.ref b2), .val (.ref b24), .val (.ref b36), .val (.ref b51), .val (.int r119), .val (.int r121), .val (.int r124), .val (.int r126), .val (.ref b127), .unset] [(.int (3 : Int32)), (.ref b24), (.int v178), (.int (3 : Int32)), (.ref b127)])) _
    refine X172.baloadBytes hx (j := (3 : Int32)) (v := (.int v30)) (own_hp e172 Ar181.1) (State.isArrayOf_alike hZ.alike Ar181.2.1) Ar181.2.2 hin181 hat181 (g := (mkF m 362 #[.val (.int p1), .val (.int p2), .val (.int p3), .val (.int p4), .val (.int p5), .val (.int v1), .val (.ref b2), .val (.ref b24), .val (.ref b36), .val (.ref b51), .val (.int r119), .val (.int r121), .val (.int r124), .val (.int r126), .val (.ref b127), .unset] [(.int (3 : Int32)), (.ref b24), (.int v178), (.int (3 : Int32)), (.ref b127)])) rfl rfl (hb hby at_362) _ ?_
    show Steps p.tables e below (T172.setTop (mkF m 363 #[.val (.int p1), .val (.int p2), .val (.int p3), .val (.int p4), .val (.int p5), .val (.int v1), .val (.ref b2), .val (.ref b24), .val (.ref b36), .val (.ref b51), .val (.int r119), .val (.int r121), .val (.int r124), .val (.int r126), .val (.ref b127), .unset] [(.int v30), (.int v178), (.int (3 : Int32)), (.ref b127)])) _
    refine XS.aload X172.here hx rfl (hb hby at_363) rfl rfl ?_
    show Steps p.tables e below (T172.setTop (mkF m 365 #[.val (.int p1), .val (.int p2), .val (.int p3), .val (.int p4), .val (.int p5), .val (.int v1), .val (.ref b2), .val (.ref b24), .val (.ref b36), .val (.ref b51), .val (.int r119), .val (.int r121), .val (.int r124), .val (.int r126), .val (.ref b127), .unset] [(.ref b36), (.int v30), (.int v178), (.int (3 : Int32)), (.ref b127)])) _
    refine XS.iconst X172.here hx rfl (hb hby at_365) ?_
    show Steps p.tables e below (T172.setTop (mkF m 366 #[.val (.int p1), .val (.int p2), .val (.int p3), .val (.int p4), .val (.int p5), .val (.int v1), .val (.ref b2), .val (.ref b24), .val (.ref b36), .val (.ref b51), .val (.int r119), .val (.int r121), .val (.int r124), .val (.int r126), .val (.ref b127), .unset] [(.int (3 : Int32)), (.ref b36), (.int v30), (.int v178), (.int (3 : Int32)), (.ref b127)])) _
    refine X172.baloadBytes hx (j := (3 : Int32)) (v := (.int v45)) (own_hp e172 Ar183.1) (State.isArrayOf_alike hZ.alike Ar183.2.1) Ar183.2.2 hin183 hat183 (g := (mkF m 366 #[.val (.int p1), .val (.int p2), .val (.int p3), .val (.int p4), .val (.int p5), .val (.int v1), .val (.ref b2), .val (.ref b24), .val (.ref b36), .val (.ref b51), .val (.int r119), .val (.int r121), .val (.int r124), .val (.int r126), .val (.ref b127), .unset] [(.int (3 : Int32)), (.ref b36), (.int v30), (.int v178), (.int (3 : Int32)), (.ref b127)])) rfl rfl (hb hby at_366) _ ?_
    show Steps p.tables e below (T172.setTop (mkF m 367 #[.val (.int p1), .val (.int p2), .val (.int p3), .val (.int p4), .val (.int p5), .val (.int v1), .val (.ref b2), .val (.ref b24), .val (.ref b36), .val (.ref b51), .val (.int r119), .val (.int r121), .val (.int r124), .val (.int r126), .val (.ref b127), .unset] [(.int v45), (.int v30), (.int v178), (.int (3 : Int32)), (.ref b127)])) _
    refine st184 _ ?_
    show Steps p.tables e below (T184.setTop (mkF m 370 #[.val (.int p1), .val (.int p2), .val (.int p3), .val (.int p4), .val (.int p5), .val (.int v1), .val (.ref b2), .val (.ref b24), .val (.ref b36), .val (.ref b51), .val (.int r119), .val (.int r121), .val (.int r124), .val (.int r126), .val (.ref b127), .unset] [(.int (nar .byte (if v178 = (0 : Int32) then v45 else v30))), (.int (3 : Int32)), (.ref b127)])) _
    refine st186 _ ?_
    show Steps p.tables e below (T186.setTop (mkF m 371 #[.val (.int p1), .val (.int p2), .val (.int p3), .val (.int p4), .val (.int p5), .val (.int v1), .val (.ref b2), .val (.ref b24), .val (.ref b36), .val (.ref b51), .val (.int r119), .val (.int r121), .val (.int r124), .val (.int r126), .val (.ref b127), .unset] [])) _
    refine XS.aload X186.here hx rfl (hb hby at_371) rfl rfl ?_
    show Steps p.tables e below (T186.setTop (mkF m 373 #[.val (.int p1), .val (.int p2), .val (.int p3), .val (.int p4), .val (.int p5), .val (.int v1), .val (.ref b2), .val (.ref b24), .val (.ref b36), .val (.ref b51), .val (.int r119), .val (.int r121), .val (.int r124), .val (.int r126), .val (.ref b127), .unset] [(.ref b127)])) _
    refine XS.iconst X186.here hx rfl (hb hby at_373) ?_
    show Steps p.tables e below (T186.setTop (mkF m 374 #[.val (.int p1), .val (.int p2), .val (.int p3), .val (.int p4), .val (.int p5), .val (.int v1), .val (.ref b2), .val (.ref b24), .val (.ref b36), .val (.ref b51), .val (.int r119), .val (.int r121), .val (.int r124), .val (.int r126), .val (.ref b127), .unset] [(.int (4 : Int32)), (.ref b127)])) _
    refine XS.iconst X186.here hx rfl (hb hby at_374) ?_
    show Steps p.tables e below (T186.setTop (mkF m 375 #[.val (.int p1), .val (.int p2), .val (.int p3), .val (.int p4), .val (.int p5), .val (.int v1), .val (.ref b2), .val (.ref b24), .val (.ref b36), .val (.ref b51), .val (.int r119), .val (.int r121), .val (.int r124), .val (.int r126), .val (.ref b127), .unset] [(.int (4 : Int32)), (.int (4 : Int32)), (.ref b127)])) _
    refine XS.iload X186.here hx rfl (hb hby at_375) rfl ?_
    exact ktx
  obtain ⟨v192, hv_v192, go193⟩ : ∃ (v192 : Int32), v192 = (if (4 : Int32) < v1 then (1 : Int32) else (0 : Int32)) ∧ own_go p e below (s₁.setTop (entryFrame m #[(.int p1), (.int p2), (.int p3), (.int p4), (.int p5)] maxLocals)) (T186.setTop (mkF m 385 #[.val (.int p1), .val (.int p2), .val (.int p3), .val (.int p4), .val (.int p5), .val (.int v1), .val (.ref b2), .val (.ref b24), .val (.ref b36), .val (.ref b51), .val (.int r119), .val (.int r121), .val (.int r124), .val (.int r126), .val (.ref b127), .unset] [(.int v192), (.int (4 : Int32)), (.ref b127)])) := by
    by_cases hc189_377 : (4 : Int32) < v1
    · have go190 : own_go p e below (s₁.setTop (entryFrame m #[(.int p1), (.int p2), (.int p3), (.int p4), (.int p5)] maxLocals)) (T186.setTop (mkF m 385 #[.val (.int p1), .val (.int p2), .val (.int p3), .val (.int p4), .val (.int p5), .val (.int v1), .val (.ref b2), .val (.ref b24), .val (.ref b36), .val (.ref b51), .val (.int r119), .val (.int r121), .val (.int r124), .val (.int r126), .val (.ref b127), .unset] [(.int (1 : Int32)), (.int (4 : Int32)), (.ref b127)])) := by
        intro ttx ktx
        refine go188 ttx ?_
        show Steps p.tables e below (T186.setTop (mkF m 377 #[.val (.int p1), .val (.int p2), .val (.int p3), .val (.int p4), .val (.int p5), .val (.int v1), .val (.ref b2), .val (.ref b24), .val (.ref b36), .val (.ref b51), .val (.int r119), .val (.int r121), .val (.int r124), .val (.int r126), .val (.ref b127), .unset] [(.int v1), (.int (4 : Int32)), (.int (4 : Int32)), (.ref b127)])) _
        refine XS.icmpNo X186.here hx rfl (hb hby at_377) rfl (tlt hc189_377).2.1 ?_
        show Steps p.tables e below (T186.setTop (mkF m 380 #[.val (.int p1), .val (.int p2), .val (.int p3), .val (.int p4), .val (.int p5), .val (.int v1), .val (.ref b2), .val (.ref b24), .val (.ref b36), .val (.ref b51), .val (.int r119), .val (.int r121), .val (.int r124), .val (.int r126), .val (.ref b127), .unset] [(.int (4 : Int32)), (.ref b127)])) _
        refine XS.iconst X186.here hx rfl (hb hby at_380) ?_
        show Steps p.tables e below (T186.setTop (mkF m 381 #[.val (.int p1), .val (.int p2), .val (.int p3), .val (.int p4), .val (.int p5), .val (.int v1), .val (.ref b2), .val (.ref b24), .val (.ref b36), .val (.ref b51), .val (.int r119), .val (.int r121), .val (.int r124), .val (.int r126), .val (.ref b127), .unset] [(.int (1 : Int32)), (.int (4 : Int32)), (.ref b127)])) _
        refine XS.goto X186.here hx rfl (pc0 := 381) (pc' := 385) rfl (hb hby at_381) (by decide) (by decide) ?_
        exact ktx
      exact ⟨_, (if_pos hc189_377).symm, go190⟩
    · have go191 : own_go p e below (s₁.setTop (entryFrame m #[(.int p1), (.int p2), (.int p3), (.int p4), (.int p5)] maxLocals)) (T186.setTop (mkF m 385 #[.val (.int p1), .val (.int p2), .val (.int p3), .val (.int p4), .val (.int p5), .val (.int v1), .val (.ref b2), .val (.ref b24), .val (.ref b36), .val (.ref b51), .val (.int r119), .val (.int r121), .val (.int r124), .val (.int r126), .val (.ref b127), .unset] [(.int (0 : Int32)), (.int (4 : Int32)), (.ref b127)])) := by
        intro ttx ktx
        refine go188 ttx ?_
        show Steps p.tables e below (T186.setTop (mkF m 377 #[.val (.int p1), .val (.int p2), .val (.int p3), .val (.int p4), .val (.int p5), .val (.int v1), .val (.ref b2), .val (.ref b24), .val (.ref b36), .val (.ref b51), .val (.int r119), .val (.int r121), .val (.int r124), .val (.int r126), .val (.ref b127), .unset] [(.int v1), (.int (4 : Int32)), (.int (4 : Int32)), (.ref b127)])) _
        refine XS.icmpYes X186.here hx rfl (pc0 := 377) (pc' := 384) rfl (hb hby at_377) rfl (flt hc189_377).2.1 (by decide) (by decide) ?_
        show Steps p.tables e below (T186.setTop (mkF m 384 #[.val (.int p1), .val (.int p2), .val (.int p3), .val (.int p4), .val (.int p5), .val (.int v1), .val (.ref b2), .val (.ref b24), .val (.ref b36), .val (.ref b51), .val (.int r119), .val (.int r121), .val (.int r124), .val (.int r126), .val (.ref b127), .unset] [(.int (4 : Int32)), (.ref b127)])) _
        refine XS.iconst X186.here hx rfl (hb hby at_384) ?_
        exact ktx
      exact ⟨_, (if_neg hc189_377).symm, go191⟩
  have f194 := (f180.other W186 ne129)
  obtain ⟨cl195, Ar195, q195, S195, M195, H195, G195⟩ := id f194
  have hin195 : ¬ ((4 : Int32) < 0 ∨ cl195.slots.size ≤ ((4 : Int32)).toNatClampNeg) := inb_of S195 ⟨by decide, by decide⟩
  have hat195 : cl195.slots[((4 : Int32)).toNatClampNeg]? = some (.int v32) := Has.at H195 hin195 rfl
  have f196 := (f182.other W186 ne130)
  obtain ⟨cl197, Ar197, q197, S197, M197, H197, G197⟩ := id f196
  have hin197 : ¬ ((4 : Int32) < 0 ∨ cl197.slots.size ≤ ((4 : Int32)).toNatClampNeg) := inb_of S197 ⟨by decide, by decide⟩
  have hat197 : cl197.slots[((4 : Int32)).toNatClampNeg]? = some (.int v47) := Has.at H197 hin197 rfl
  obtain ⟨_, _, ⟨T198, L198, k198, n198⟩, -, X198, ⟨Lc198, hQ198, l198, y198, z198⟩, st198⟩ := Jvm.LawKit.callS X186 hx (y := (⟨"io/subjectwire/auth/Crc16OfPinLaw", "pick", "(ZBB)B"⟩ : MethodName)) hown (mvT hZ (hw _ (List.mem_of_getElem? (i := 11) rfl))) (mvT hZ (hw _ (List.mem_of_getElem? (i := 12) rfl))) (mvT hZ (hw _ (List.mem_of_getElem? (i := 3) rfl))) (mvT hZ (hw _ (List.mem_of_getElem? (i := 13) rfl))) (by decide) (backOf (W := 2) (rm3 l Z a0 hw [] v192 v32 v47  h186 n0 Z186 ) hZ (hw _ (List.mem_of_getElem? (i := 13) rfl)) (hw _ (List.mem_of_getElem? (i := 3) rfl)) (by decide) (by decide)) (g := (mkF m 393 #[.val (.int p1), .val (.int p2), .val (.int p3), .val (.int p4), .val (.int p5), .val (.int v1), .val (.ref b2), .val (.ref b24), .val (.ref b36), .val (.ref b51), .val (.int r119), .val (.int r121), .val (.int r124), .val (.int r126), .val (.ref b127), .unset] [(.int v47), (.int v32), (.int v192), (.int (4 : Int32)), (.ref b127)])) rfl (by rw [hml]; rfl) (argsL := [(.int v192), (.int v32), (.int v47)]) (rest := [(.int (4 : Int32)), (.ref b127)]) (lenOf own_pd2 rfl) rfl (by show 2 * 0 + _ ≤ _; exact Nat.le_of_eq rfl) (hb hby at_393) (fun _ _ => ⟨rfl, e186, (by decide : 5 + 0 ≤ _), (by decide : 43 + 0 ≤ _)⟩)
  dsimp only [Pt.U, Pt.locs, Pt.cells, Pt.slots] at X198 l198 y198 z198 st198 hQ198
  rw [l198, y198, z198] at X198
  obtain ⟨rfl, Nq198, e198⟩ := hQ198
  have N198 := Fr.app N186 Nq198
  obtain ⟨cl199, Ar199, q199, S199, M199, H199, G199⟩ := id V186
  have hin199 : ¬ ((4 : Int32) < 0 ∨ cl199.slots.size ≤ ((4 : Int32)).toNatClampNeg) := inb_of S199 ⟨by decide, by decide⟩
  obtain ⟨T200, h200, X200, e200, W200, st200⟩ := stB X198 hx hZ e198 Ar199 (j := (4 : Int32)) hin199 (g := (mkF m 396 #[.val (.int p1), .val (.int p2), .val (.int p3), .val (.int p4), .val (.int p5), .val (.int v1), .val (.ref b2), .val (.ref b24), .val (.ref b36), .val (.ref b51), .val (.int r119), .val (.int r121), .val (.int r124), .val (.int r126), .val (.ref b127), .unset] [(.int (nar .byte (if v192 = (0 : Int32) then v47 else v32))), (.int (4 : Int32)), (.ref b127)])) rfl rfl (hb hby at_396)
  have Z200 : n0 ≤ h200.size := Nat.le_trans Z186 (Nat.le_of_eq W200.size.symm)
  have N200 := Fr.snoc X200 N198 g_b127
  have V200 : Arv Z h200 b127 k127 .byte (10 : Int32) [(.int v145), (.int v159), (.int v173), (.int v187), (.int ((nar .byte (if v192 = (0 : Int32) then v47 else v32)).toInt8.toInt32)), (.int (0 : Int32)), (.int (0 : Int32)), (.int (0 : Int32)), (.int (0 : Int32)), (.int (0 : Int32))] (.int (0 : Int32)) := Arv.set Ar199 q199 S199 M199 H199 G199 (fits_nar_byte _) W200 4 rfl (Nat.le_of_ble_eq_true rfl)
  obtain ⟨v201, hv_v201⟩ : ∃ z : Int32, z = ((nar .byte (if v192 = (0 : Int32) then v47 else v32)).toInt8.toInt32) := ⟨_, rfl⟩
  rw [← hv_v201] at V200
  have go202 : own_go p e below (s₁.setTop (entryFrame m #[(.int p1), (.int p2), (.int p3), (.int p4), (.int p5)] maxLocals)) (T200.setTop (mkF m 403 #[.val (.int p1), .val (.int p2), .val (.int p3), .val (.int p4), .val (.int p5), .val (.int v1), .val (.ref b2), .val (.ref b24), .val (.ref b36), .val (.ref b51), .val (.int r119), .val (.int r121), .val (.int r124), .val (.int r126), .val (.ref b127), .unset] [(.int v1), (.int (5 : Int32)), (.int (5 : Int32)), (.ref b127)])) := by
    intro ttx ktx
    refine go193 ttx ?_
    show Steps p.tables e below (T186.setTop (mkF m 385 #[.val (.int p1), .val (.int p2), .val (.int p3), .val (.int p4), .val (.int p5), .val (.int v1), .val (.ref b2), .val (.ref b24), .val (.ref b36), .val (.ref b51), .val (.int r119), .val (.int r121), .val (.int r124), .val (.int r126), .val (.ref b127), .unset] [(.int v192), (.int (4 : Int32)), (.ref b127)])) _
    refine XS.aload X186.here hx rfl (hb hby at_385) rfl rfl ?_
    show Steps p.tables e below (T186.setTop (mkF m 387 #[.val (.int p1), .val (.int p2), .val (.int p3), .val (.int p4), .val (.int p5), .val (.int v1), .val (.ref b2), .val (.ref b24), .val (.ref b36), .val (.ref b51), .val (.int r119), .val (.int r121), .val (.int r124), .val (.int r126), .val (.ref b127), .unset] [(.ref b24), (.int v192), (.int (4 : Int32)), (.ref b127)])) _
    refine XS.iconst X186.here hx rfl (hb hby at_387) ?_
    show Steps p.tables e below (T186.setTop (mkF m 388 #[.val (.int p1), .val (.int p2), .val (.int p3), .val (.int p4), .val (.int p5), .val (.int v1), .val (.ref b2), .val (.ref b24), .val (.ref b36), .val (.ref b51), .val (.int r119), .val (.int r121), .val (.int r124), .val (.int r126), .val (.ref b127), .unset] [(.int (4 : Int32)), (.ref b24), (.int v192), (.int (4 : Int32)), (.ref b127)])) _
    refine X186.baloadBytes hx (j := (4 : Int32)) (v := (.int v32)) (own_hp e186 Ar195.1) (State.isArrayOf_alike hZ.alike Ar195.2.1) Ar195.2.2 hin195 hat195 (g := (mkF m 388 #[.val (.int p1), .val (.int p2), .val (.int p3), .val (.int p4), .val (.int p5), .val (.int v1), .val (.ref b2), .val (.ref b24), .val (.ref b36), .val (.ref b51), .val (.int r119), .val (.int r121), .val (.int r124), .val (.int r126), .val (.ref b127), .unset] [(.int (4 : Int32)), (.ref b24), (.int v192), (.int (4 : Int32)), (.ref b127)])) rfl rfl (hb hby at_388) _ ?_
    show Steps p.tables e below (T186.setTop (mkF m 389 #[.val (.int p1), .val (.int p2), .val (.int p3), .val (.int p4), .val (.int p5), .val (.int v1), .val (.ref b2), .val (.ref b24), .val (.ref b36), .val (.ref b51), .val (.int r119), .val (.int r121), .val (.int r124), .val (.int r126), .val (.ref b127), .unset] [(.int v32), (.int v192), (.int (4 : Int32)), (.ref b127)])) _
    refine XS.aload X186.here hx rfl (hb hby at_389) rfl rfl ?_
    show Steps p.tables e below (T186.setTop (mkF m 391 #[.val (.int p1), .val (.int p2), .val (.int p3), .val (.int p4), .val (.int p5), .val (.int v1), .val (.ref b2), .val (.ref b24), .val (.ref b36), .val (.ref b51), .val (.int r119), .val (.int r121), .val (.int r124), .val (.int r126), .val (.ref b127), .unset] [(.ref b36), (.int v32), (.int v192), (.int (4 : Int32)), (.ref b127)])) _
    refine XS.iconst X186.here hx rfl (hb hby at_391) ?_
    show Steps p.tables e below (T186.setTop (mkF m 392 #[.val (.int p1), .val (.int p2), .val (.int p3), .val (.int p4), .val (.int p5), .val (.int v1), .val (.ref b2), .val (.ref b24), .val (.ref b36), .val (.ref b51), .val (.int r119), .val (.int r121), .val (.int r124), .val (.int r126), .val (.ref b127), .unset] [(.int (4 : Int32)), (.ref b36), (.int v32), (.int v192), (.int (4 : Int32)), (.ref b127)])) _
    refine X186.baloadBytes hx (j := (4 : Int32)) (v := (.int v47)) (own_hp e186 Ar197.1) (State.isArrayOf_alike hZ.alike Ar197.2.1) Ar197.2.2 hin197 hat197 (g := (mkF m 392 #[.val (.int p1), .val (.int p2), .val (.int p3), .val (.int p4), .val (.int p5), .val (.int v1), .val (.ref b2), .val (.ref b24), .val (.ref b36), .val (.ref b51), .val (.int r119), .val (.int r121), .val (.int r124), .val (.int r126), .val (.ref b127), .unset] [(.int (4 : Int32)), (.ref b36), (.int v32), (.int v192), (.int (4 : Int32)), (.ref b127)])) rfl rfl (hb hby at_392) _ ?_
    show Steps p.tables e below (T186.setTop (mkF m 393 #[.val (.int p1), .val (.int p2), .val (.int p3), .val (.int p4), .val (.int p5), .val (.int v1), .val (.ref b2), .val (.ref b24), .val (.ref b36), .val (.ref b51), .val (.int r119), .val (.int r121), .val (.int r124), .val (.int r126), .val (.ref b127), .unset] [(.int v47), (.int v32), (.int v192), (.int (4 : Int32)), (.ref b127)])) _
    refine st198 _ ?_
    show Steps p.tables e below (T198.setTop (mkF m 396 #[.val (.int p1), .val (.int p2), .val (.int p3), .val (.int p4), .val (.int p5), .val (.int v1), .val (.ref b2), .val (.ref b24), .val (.ref b36), .val (.ref b51), .val (.int r119), .val (.int r121), .val (.int r124), .val (.int r126), .val (.ref b127), .unset] [(.int (nar .byte (if v192 = (0 : Int32) then v47 else v32))), (.int (4 : Int32)), (.ref b127)])) _
    refine st200 _ ?_
    show Steps p.tables e below (T200.setTop (mkF m 397 #[.val (.int p1), .val (.int p2), .val (.int p3), .val (.int p4), .val (.int p5), .val (.int v1), .val (.ref b2), .val (.ref b24), .val (.ref b36), .val (.ref b51), .val (.int r119), .val (.int r121), .val (.int r124), .val (.int r126), .val (.ref b127), .unset] [])) _
    refine XS.aload X200.here hx rfl (hb hby at_397) rfl rfl ?_
    show Steps p.tables e below (T200.setTop (mkF m 399 #[.val (.int p1), .val (.int p2), .val (.int p3), .val (.int p4), .val (.int p5), .val (.int v1), .val (.ref b2), .val (.ref b24), .val (.ref b36), .val (.ref b51), .val (.int r119), .val (.int r121), .val (.int r124), .val (.int r126), .val (.ref b127), .unset] [(.ref b127)])) _
    refine XS.iconst X200.here hx rfl (hb hby at_399) ?_
    show Steps p.tables e below (T200.setTop (mkF m 400 #[.val (.int p1), .val (.int p2), .val (.int p3), .val (.int p4), .val (.int p5), .val (.int v1), .val (.ref b2), .val (.ref b24), .val (.ref b36), .val (.ref b51), .val (.int r119), .val (.int r121), .val (.int r124), .val (.int r126), .val (.ref b127), .unset] [(.int (5 : Int32)), (.ref b127)])) _
    refine XS.iconst X200.here hx rfl (hb hby at_400) ?_
    show Steps p.tables e below (T200.setTop (mkF m 401 #[.val (.int p1), .val (.int p2), .val (.int p3), .val (.int p4), .val (.int p5), .val (.int v1), .val (.ref b2), .val (.ref b24), .val (.ref b36), .val (.ref b51), .val (.int r119), .val (.int r121), .val (.int r124), .val (.int r126), .val (.ref b127), .unset] [(.int (5 : Int32)), (.int (5 : Int32)), (.ref b127)])) _
    refine XS.iload X200.here hx rfl (hb hby at_401) rfl ?_
    exact ktx
  obtain ⟨v206, hv_v206, go207⟩ : ∃ (v206 : Int32), v206 = (if (5 : Int32) < v1 then (1 : Int32) else (0 : Int32)) ∧ own_go p e below (s₁.setTop (entryFrame m #[(.int p1), (.int p2), (.int p3), (.int p4), (.int p5)] maxLocals)) (T200.setTop (mkF m 411 #[.val (.int p1), .val (.int p2), .val (.int p3), .val (.int p4), .val (.int p5), .val (.int v1), .val (.ref b2), .val (.ref b24), .val (.ref b36), .val (.ref b51), .val (.int r119), .val (.int r121), .val (.int r124), .val (.int r126), .val (.ref b127), .unset] [(.int v206), (.int (5 : Int32)), (.ref b127)])) := by
    by_cases hc203_403 : (5 : Int32) < v1
    · have go204 : own_go p e below (s₁.setTop (entryFrame m #[(.int p1), (.int p2), (.int p3), (.int p4), (.int p5)] maxLocals)) (T200.setTop (mkF m 411 #[.val (.int p1), .val (.int p2), .val (.int p3), .val (.int p4), .val (.int p5), .val (.int v1), .val (.ref b2), .val (.ref b24), .val (.ref b36), .val (.ref b51), .val (.int r119), .val (.int r121), .val (.int r124), .val (.int r126), .val (.ref b127), .unset] [(.int (1 : Int32)), (.int (5 : Int32)), (.ref b127)])) := by
        intro ttx ktx
        refine go202 ttx ?_
        show Steps p.tables e below (T200.setTop (mkF m 403 #[.val (.int p1), .val (.int p2), .val (.int p3), .val (.int p4), .val (.int p5), .val (.int v1), .val (.ref b2), .val (.ref b24), .val (.ref b36), .val (.ref b51), .val (.int r119), .val (.int r121), .val (.int r124), .val (.int r126), .val (.ref b127), .unset] [(.int v1), (.int (5 : Int32)), (.int (5 : Int32)), (.ref b127)])) _
        refine XS.icmpNo X200.here hx rfl (hb hby at_403) rfl (tlt hc203_403).2.1 ?_
        show Steps p.tables e below (T200.setTop (mkF m 406 #[.val (.int p1), .val (.int p2), .val (.int p3), .val (.int p4), .val (.int p5), .val (.int v1), .val (.ref b2), .val (.ref b24), .val (.ref b36), .val (.ref b51), .val (.int r119), .val (.int r121), .val (.int r124), .val (.int r126), .val (.ref b127), .unset] [(.int (5 : Int32)), (.ref b127)])) _
        refine XS.iconst X200.here hx rfl (hb hby at_406) ?_
        show Steps p.tables e below (T200.setTop (mkF m 407 #[.val (.int p1), .val (.int p2), .val (.int p3), .val (.int p4), .val (.int p5), .val (.int v1), .val (.ref b2), .val (.ref b24), .val (.ref b36), .val (.ref b51), .val (.int r119), .val (.int r121), .val (.int r124), .val (.int r126), .val (.ref b127), .unset] [(.int (1 : Int32)), (.int (5 : Int32)), (.ref b127)])) _
        refine XS.goto X200.here hx rfl (pc0 := 407) (pc' := 411) rfl (hb hby at_407) (by decide) (by decide) ?_
        exact ktx
      exact ⟨_, (if_pos hc203_403).symm, go204⟩
    · have go205 : own_go p e below (s₁.setTop (entryFrame m #[(.int p1), (.int p2), (.int p3), (.int p4), (.int p5)] maxLocals)) (T200.setTop (mkF m 411 #[.val (.int p1), .val (.int p2), .val (.int p3), .val (.int p4), .val (.int p5), .val (.int v1), .val (.ref b2), .val (.ref b24), .val (.ref b36), .val (.ref b51), .val (.int r119), .val (.int r121), .val (.int r124), .val (.int r126), .val (.ref b127), .unset] [(.int (0 : Int32)), (.int (5 : Int32)), (.ref b127)])) := by
        intro ttx ktx
        refine go202 ttx ?_
        show Steps p.tables e below (T200.setTop (mkF m 403 #[.val (.int p1), .val (.int p2), .val (.int p3), .val (.int p4), .val (.int p5), .val (.int v1), .val (.ref b2), .val (.ref b24), .val (.ref b36), .val (.ref b51), .val (.int r119), .val (.int r121), .val (.int r124), .val (.int r126), .val (.ref b127), .unset] [(.int v1), (.int (5 : Int32)), (.int (5 : Int32)), (.ref b127)])) _
        refine XS.icmpYes X200.here hx rfl (pc0 := 403) (pc' := 410) rfl (hb hby at_403) rfl (flt hc203_403).2.1 (by decide) (by decide) ?_
        show Steps p.tables e below (T200.setTop (mkF m 410 #[.val (.int p1), .val (.int p2), .val (.int p3), .val (.int p4), .val (.int p5), .val (.int v1), .val (.ref b2), .val (.ref b24), .val (.ref b36), .val (.ref b51), .val (.int r119), .val (.int r121), .val (.int r124), .val (.int r126), .val (.ref b127), .unset] [(.int (5 : Int32)), (.ref b127)])) _
        refine XS.iconst X200.here hx rfl (hb hby at_410) ?_
        exact ktx
      exact ⟨_, (if_neg hc203_403).symm, go205⟩
  have f208 := (f194.other W200 ne129)
  obtain ⟨cl209, Ar209, q209, S209, M209, H209, G209⟩ := id f208
  have hin209 : ¬ ((5 : Int32) < 0 ∨ cl209.slots.size ≤ ((5 : Int32)).toNatClampNeg) := inb_of S209 ⟨by decide, by decide⟩
  have hat209 : cl209.slots[((5 : Int32)).toNatClampNeg]? = some (.int v33) := Has.at H209 hin209 rfl
  have f210 := (f196.other W200 ne130)
  obtain ⟨cl211, Ar211, q211, S211, M211, H211, G211⟩ := id f210
  have hin211 : ¬ ((5 : Int32) < 0 ∨ cl211.slots.size ≤ ((5 : Int32)).toNatClampNeg) := inb_of S211 ⟨by decide, by decide⟩
  have hat211 : cl211.slots[((5 : Int32)).toNatClampNeg]? = some (.int v48) := Has.at H211 hin211 rfl
  obtain ⟨_, _, ⟨T212, L212, k212, n212⟩, -, X212, ⟨Lc212, hQ212, l212, y212, z212⟩, st212⟩ := Jvm.LawKit.callS X200 hx (y := (⟨"io/subjectwire/auth/Crc16OfPinLaw", "pick", "(ZBB)B"⟩ : MethodName)) hown (mvT hZ (hw _ (List.mem_of_getElem? (i := 11) rfl))) (mvT hZ (hw _ (List.mem_of_getElem? (i := 12) rfl))) (mvT hZ (hw _ (List.mem_of_getElem? (i := 3) rfl))) (mvT hZ (hw _ (List.mem_of_getElem? (i := 13) rfl))) (by decide) (backOf (W := 2) (rm3 l Z a0 hw [] v206 v33 v48  h200 n0 Z200 ) hZ (hw _ (List.mem_of_getElem? (i := 13) rfl)) (hw _ (List.mem_of_getElem? (i := 3) rfl)) (by decide) (by decide)) (g := (mkF m 419 #[.val (.int p1), .val (.int p2), .val (.int p3), .val (.int p4), .val (.int p5), .val (.int v1), .val (.ref b2), .val (.ref b24), .val (.ref b36), .val (.ref b51), .val (.int r119), .val (.int r121), .val (.int r124), .val (.int r126), .val (.ref b127), .unset] [(.int v48), (.int v33), (.int v206), (.int (5 : Int32)), (.ref b127)])) rfl (by rw [hml]; rfl) (argsL := [(.int v206), (.int v33), (.int v48)]) (rest := [(.int (5 : Int32)), (.ref b127)]) (lenOf own_pd2 rfl) rfl (by show 2 * 0 + _ ≤ _; exact Nat.le_of_eq rfl) (hb hby at_419) (fun _ _ => ⟨rfl, e200, (by decide : 5 + 0 ≤ _), (by decide : 43 + 0 ≤ _)⟩)
  dsimp only [Pt.U, Pt.locs, Pt.cells, Pt.slots] at X212 l212 y212 z212 st212 hQ212
  rw [l212, y212, z212] at X212
  obtain ⟨rfl, Nq212, e212⟩ := hQ212
  have N212 := Fr.app N200 Nq212
  obtain ⟨cl213, Ar213, q213, S213, M213, H213, G213⟩ := id V200
  have hin213 : ¬ ((5 : Int32) < 0 ∨ cl213.slots.size ≤ ((5 : Int32)).toNatClampNeg) := inb_of S213 ⟨by decide, by decide⟩
  obtain ⟨T214, h214, X214, e214, W214, st214⟩ := stB X212 hx hZ e212 Ar213 (j := (5 : Int32)) hin213 (g := (mkF m 422 #[.val (.int p1), .val (.int p2), .val (.int p3), .val (.int p4), .val (.int p5), .val (.int v1), .val (.ref b2), .val (.ref b24), .val (.ref b36), .val (.ref b51), .val (.int r119), .val (.int r121), .val (.int r124), .val (.int r126), .val (.ref b127), .unset] [(.int (nar .byte (if v206 = (0 : Int32) then v48 else v33))), (.int (5 : Int32)), (.ref b127)])) rfl rfl (hb hby at_422)
  have Z214 : n0 ≤ h214.size := Nat.le_trans Z200 (Nat.le_of_eq W214.size.symm)
  have N214 := Fr.snoc X214 N212 g_b127
  have V214 : Arv Z h214 b127 k127 .byte (10 : Int32) [(.int v145), (.int v159), (.int v173), (.int v187), (.int v201), (.int ((nar .byte (if v206 = (0 : Int32) then v48 else v33)).toInt8.toInt32)), (.int (0 : Int32)), (.int (0 : Int32)), (.int (0 : Int32)), (.int (0 : Int32))] (.int (0 : Int32)) := Arv.set Ar213 q213 S213 M213 H213 G213 (fits_nar_byte _) W214 5 rfl (Nat.le_of_ble_eq_true rfl)
  obtain ⟨v215, hv_v215⟩ : ∃ z : Int32, z = ((nar .byte (if v206 = (0 : Int32) then v48 else v33)).toInt8.toInt32) := ⟨_, rfl⟩
  rw [← hv_v215] at V214
  have go216 : own_go p e below (s₁.setTop (entryFrame m #[(.int p1), (.int p2), (.int p3), (.int p4), (.int p5)] maxLocals)) (T214.setTop (mkF m 431 #[.val (.int p1), .val (.int p2), .val (.int p3), .val (.int p4), .val (.int p5), .val (.int v1), .val (.ref b2), .val (.ref b24), .val (.ref b36), .val (.ref b51), .val (.int r119), .val (.int r121), .val (.int r124), .val (.int r126), .val (.ref b127), .unset] [(.int v1), (.int (6 : Int32)), (.int (6 : Int32)), (.ref b127)])) := by
    intro ttx ktx
    refine go207 ttx ?_
    show Steps p.tables e below (T200.setTop (mkF m 411 #[.val (.int p1), .val (.int p2), .val (.int p3), .val (.int p4), .val (.int p5), .val (.int v1), .val (.ref b2), .val (.ref b24), .val (.ref b36), .val (.ref b51), .val (.int r119), .val (.int r121), .val (.int r124), .val (.int r126), .val (.ref b127), .unset] [(.int v206), (.int (5 : Int32)), (.ref b127)])) _
    refine XS.aload X200.here hx rfl (hb hby at_411) rfl rfl ?_
    show Steps p.tables e below (T200.setTop (mkF m 413 #[.val (.int p1), .val (.int p2), .val (.int p3), .val (.int p4), .val (.int p5), .val (.int v1), .val (.ref b2), .val (.ref b24), .val (.ref b36), .val (.ref b51), .val (.int r119), .val (.int r121), .val (.int r124), .val (.int r126), .val (.ref b127), .unset] [(.ref b24), (.int v206), (.int (5 : Int32)), (.ref b127)])) _
    refine XS.iconst X200.here hx rfl (hb hby at_413) ?_
    show Steps p.tables e below (T200.setTop (mkF m 414 #[.val (.int p1), .val (.int p2), .val (.int p3), .val (.int p4), .val (.int p5), .val (.int v1), .val (.ref b2), .val (.ref b24), .val (.ref b36), .val (.ref b51), .val (.int r119), .val (.int r121), .val (.int r124), .val (.int r126), .val (.ref b127), .unset] [(.int (5 : Int32)), (.ref b24), (.int v206), (.int (5 : Int32)), (.ref b127)])) _
    refine X200.baloadBytes hx (j := (5 : Int32)) (v := (.int v33)) (own_hp e200 Ar209.1) (State.isArrayOf_alike hZ.alike Ar209.2.1) Ar209.2.2 hin209 hat209 (g := (mkF m 414 #[.val (.int p1), .val (.int p2), .val (.int p3), .val (.int p4), .val (.int p5), .val (.int v1), .val (.ref b2), .val (.ref b24), .val (.ref b36), .val (.ref b51), .val (.int r119), .val (.int r121), .val (.int r124), .val (.int r126), .val (.ref b127), .unset] [(.int (5 : Int32)), (.ref b24), (.int v206), (.int (5 : Int32)), (.ref b127)])) rfl rfl (hb hby at_414) _ ?_
    show Steps p.tables e below (T200.setTop (mkF m 415 #[.val (.int p1), .val (.int p2), .val (.int p3), .val (.int p4), .val (.int p5), .val (.int v1), .val (.ref b2), .val (.ref b24), .val (.ref b36), .val (.ref b51), .val (.int r119), .val (.int r121), .val (.int r124), .val (.int r126), .val (.ref b127), .unset] [(.int v33), (.int v206), (.int (5 : Int32)), (.ref b127)])) _
    refine XS.aload X200.here hx rfl (hb hby at_415) rfl rfl ?_
    show Steps p.tables e below (T200.setTop (mkF m 417 #[.val (.int p1), .val (.int p2), .val (.int p3), .val (.int p4), .val (.int p5), .val (.int v1), .val (.ref b2), .val (.ref b24), .val (.ref b36), .val (.ref b51), .val (.int r119), .val (.int r121), .val (.int r124), .val (.int r126), .val (.ref b127), .unset] [(.ref b36), (.int v33), (.int v206), (.int (5 : Int32)), (.ref b127)])) _
    refine XS.iconst X200.here hx rfl (hb hby at_417) ?_
    show Steps p.tables e below (T200.setTop (mkF m 418 #[.val (.int p1), .val (.int p2), .val (.int p3), .val (.int p4), .val (.int p5), .val (.int v1), .val (.ref b2), .val (.ref b24), .val (.ref b36), .val (.ref b51), .val (.int r119), .val (.int r121), .val (.int r124), .val (.int r126), .val (.ref b127), .unset] [(.int (5 : Int32)), (.ref b36), (.int v33), (.int v206), (.int (5 : Int32)), (.ref b127)])) _
    refine X200.baloadBytes hx (j := (5 : Int32)) (v := (.int v48)) (own_hp e200 Ar211.1) (State.isArrayOf_alike hZ.alike Ar211.2.1) Ar211.2.2 hin211 hat211 (g := (mkF m 418 #[.val (.int p1), .val (.int p2), .val (.int p3), .val (.int p4), .val (.int p5), .val (.int v1), .val (.ref b2), .val (.ref b24), .val (.ref b36), .val (.ref b51), .val (.int r119), .val (.int r121), .val (.int r124), .val (.int r126), .val (.ref b127), .unset] [(.int (5 : Int32)), (.ref b36), (.int v33), (.int v206), (.int (5 : Int32)), (.ref b127)])) rfl rfl (hb hby at_418) _ ?_
    show Steps p.tables e below (T200.setTop (mkF m 419 #[.val (.int p1), .val (.int p2), .val (.int p3), .val (.int p4), .val (.int p5), .val (.int v1), .val (.ref b2), .val (.ref b24), .val (.ref b36), .val (.ref b51), .val (.int r119), .val (.int r121), .val (.int r124), .val (.int r126), .val (.ref b127), .unset] [(.int v48), (.int v33), (.int v206), (.int (5 : Int32)), (.ref b127)])) _
    refine st212 _ ?_
    show Steps p.tables e below (T212.setTop (mkF m 422 #[.val (.int p1), .val (.int p2), .val (.int p3), .val (.int p4), .val (.int p5), .val (.int v1), .val (.ref b2), .val (.ref b24), .val (.ref b36), .val (.ref b51), .val (.int r119), .val (.int r121), .val (.int r124), .val (.int r126), .val (.ref b127), .unset] [(.int (nar .byte (if v206 = (0 : Int32) then v48 else v33))), (.int (5 : Int32)), (.ref b127)])) _
    refine st214 _ ?_
    show Steps p.tables e below (T214.setTop (mkF m 423 #[.val (.int p1), .val (.int p2), .val (.int p3), .val (.int p4), .val (.int p5), .val (.int v1), .val (.ref b2), .val (.ref b24), .val (.ref b36), .val (.ref b51), .val (.int r119), .val (.int r121), .val (.int r124), .val (.int r126), .val (.ref b127), .unset] [])) _
    refine XS.aload X214.here hx rfl (hb hby at_423) rfl rfl ?_
    show Steps p.tables e below (T214.setTop (mkF m 425 #[.val (.int p1), .val (.int p2), .val (.int p3), .val (.int p4), .val (.int p5), .val (.int v1), .val (.ref b2), .val (.ref b24), .val (.ref b36), .val (.ref b51), .val (.int r119), .val (.int r121), .val (.int r124), .val (.int r126), .val (.ref b127), .unset] [(.ref b127)])) _
    refine XS.bipush X214.here hx rfl (hb hby at_425) ?_
    show Steps p.tables e below (T214.setTop (mkF m 427 #[.val (.int p1), .val (.int p2), .val (.int p3), .val (.int p4), .val (.int p5), .val (.int v1), .val (.ref b2), .val (.ref b24), .val (.ref b36), .val (.ref b51), .val (.int r119), .val (.int r121), .val (.int r124), .val (.int r126), .val (.ref b127), .unset] [(.int (6 : Int32)), (.ref b127)])) _
    refine XS.bipush X214.here hx rfl (hb hby at_427) ?_
    show Steps p.tables e below (T214.setTop (mkF m 429 #[.val (.int p1), .val (.int p2), .val (.int p3), .val (.int p4), .val (.int p5), .val (.int v1), .val (.ref b2), .val (.ref b24), .val (.ref b36), .val (.ref b51), .val (.int r119), .val (.int r121), .val (.int r124), .val (.int r126), .val (.ref b127), .unset] [(.int (6 : Int32)), (.int (6 : Int32)), (.ref b127)])) _
    refine XS.iload X214.here hx rfl (hb hby at_429) rfl ?_
    exact ktx
  obtain ⟨v220, hv_v220, go221⟩ : ∃ (v220 : Int32), v220 = (if (6 : Int32) < v1 then (1 : Int32) else (0 : Int32)) ∧ own_go p e below (s₁.setTop (entryFrame m #[(.int p1), (.int p2), (.int p3), (.int p4), (.int p5)] maxLocals)) (T214.setTop (mkF m 439 #[.val (.int p1), .val (.int p2), .val (.int p3), .val (.int p4), .val (.int p5), .val (.int v1), .val (.ref b2), .val (.ref b24), .val (.ref b36), .val (.ref b51), .val (.int r119), .val (.int r121), .val (.int r124), .val (.int r126), .val (.ref b127), .unset] [(.int v220), (.int (6 : Int32)), (.ref b127)])) := by
    by_cases hc217_431 : (6 : Int32) < v1
    · have go218 : own_go p e below (s₁.setTop (entryFrame m #[(.int p1), (.int p2), (.int p3), (.int p4), (.int p5)] maxLocals)) (T214.setTop (mkF m 439 #[.val (.int p1), .val (.int p2), .val (.int p3), .val (.int p4), .val (.int p5), .val (.int v1), .val (.ref b2), .val (.ref b24), .val (.ref b36), .val (.ref b51), .val (.int r119), .val (.int r121), .val (.int r124), .val (.int r126), .val (.ref b127), .unset] [(.int (1 : Int32)), (.int (6 : Int32)), (.ref b127)])) := by
        intro ttx ktx
        refine go216 ttx ?_
        show Steps p.tables e below (T214.setTop (mkF m 431 #[.val (.int p1), .val (.int p2), .val (.int p3), .val (.int p4), .val (.int p5), .val (.int v1), .val (.ref b2), .val (.ref b24), .val (.ref b36), .val (.ref b51), .val (.int r119), .val (.int r121), .val (.int r124), .val (.int r126), .val (.ref b127), .unset] [(.int v1), (.int (6 : Int32)), (.int (6 : Int32)), (.ref b127)])) _
        refine XS.icmpNo X214.here hx rfl (hb hby at_431) rfl (tlt hc217_431).2.1 ?_
        show Steps p.tables e below (T214.setTop (mkF m 434 #[.val (.int p1), .val (.int p2), .val (.int p3), .val (.int p4), .val (.int p5), .val (.int v1), .val (.ref b2), .val (.ref b24), .val (.ref b36), .val (.ref b51), .val (.int r119), .val (.int r121), .val (.int r124), .val (.int r126), .val (.ref b127), .unset] [(.int (6 : Int32)), (.ref b127)])) _
        refine XS.iconst X214.here hx rfl (hb hby at_434) ?_
        show Steps p.tables e below (T214.setTop (mkF m 435 #[.val (.int p1), .val (.int p2), .val (.int p3), .val (.int p4), .val (.int p5), .val (.int v1), .val (.ref b2), .val (.ref b24), .val (.ref b36), .val (.ref b51), .val (.int r119), .val (.int r121), .val (.int r124), .val (.int r126), .val (.ref b127), .unset] [(.int (1 : Int32)), (.int (6 : Int32)), (.ref b127)])) _
        refine XS.goto X214.here hx rfl (pc0 := 435) (pc' := 439) rfl (hb hby at_435) (by decide) (by decide) ?_
        exact ktx
      exact ⟨_, (if_pos hc217_431).symm, go218⟩
    · have go219 : own_go p e below (s₁.setTop (entryFrame m #[(.int p1), (.int p2), (.int p3), (.int p4), (.int p5)] maxLocals)) (T214.setTop (mkF m 439 #[.val (.int p1), .val (.int p2), .val (.int p3), .val (.int p4), .val (.int p5), .val (.int v1), .val (.ref b2), .val (.ref b24), .val (.ref b36), .val (.ref b51), .val (.int r119), .val (.int r121), .val (.int r124), .val (.int r126), .val (.ref b127), .unset] [(.int (0 : Int32)), (.int (6 : Int32)), (.ref b127)])) := by
        intro ttx ktx
        refine go216 ttx ?_
        show Steps p.tables e below (T214.setTop (mkF m 431 #[.val (.int p1), .val (.int p2), .val (.int p3), .val (.int p4), .val (.int p5), .val (.int v1), .val (.ref b2), .val (.ref b24), .val (.ref b36), .val (.ref b51), .val (.int r119), .val (.int r121), .val (.int r124), .val (.int r126), .val (.ref b127), .unset] [(.int v1), (.int (6 : Int32)), (.int (6 : Int32)), (.ref b127)])) _
        refine XS.icmpYes X214.here hx rfl (pc0 := 431) (pc' := 438) rfl (hb hby at_431) rfl (flt hc217_431).2.1 (by decide) (by decide) ?_
        show Steps p.tables e below (T214.setTop (mkF m 438 #[.val (.int p1), .val (.int p2), .val (.int p3), .val (.int p4), .val (.int p5), .val (.int v1), .val (.ref b2), .val (.ref b24), .val (.ref b36), .val (.ref b51), .val (.int r119), .val (.int r121), .val (.int r124), .val (.int r126), .val (.ref b127), .unset] [(.int (6 : Int32)), (.ref b127)])) _
        refine XS.iconst X214.here hx rfl (hb hby at_438) ?_
        exact ktx
      exact ⟨_, (if_neg hc217_431).symm, go219⟩
  have f222 := (f208.other W214 ne129)
  obtain ⟨cl223, Ar223, q223, S223, M223, H223, G223⟩ := id f222
  have hin223 : ¬ ((6 : Int32) < 0 ∨ cl223.slots.size ≤ ((6 : Int32)).toNatClampNeg) := inb_of S223 ⟨by decide, by decide⟩
  have hat223 : cl223.slots[((6 : Int32)).toNatClampNeg]? = some (.int v34) := Has.at H223 hin223 rfl
  have f224 := (f210.other W214 ne130)
  obtain ⟨cl225, Ar225, q225, S225, M225, H225, G225⟩ := id f224
  have hin225 : ¬ ((6 : Int32) < 0 ∨ cl225.slots.size ≤ ((6 : Int32)).toNatClampNeg) := inb_of S225 ⟨by decide, by decide⟩
  have hat225 : cl225.slots[((6 : Int32)).toNatClampNeg]? = some (.int v49) := Has.at H225 hin225 rfl
  obtain ⟨_, _, ⟨T226, L226, k226, n226⟩, -, X226, ⟨Lc226, hQ226, l226, y226, z226⟩, st226⟩ := Jvm.LawKit.callS X214 hx (y := (⟨"io/subjectwire/auth/Crc16OfPinLaw", "pick", "(ZBB)B"⟩ : MethodName)) hown (mvT hZ (hw _ (List.mem_of_getElem? (i := 11) rfl))) (mvT hZ (hw _ (List.mem_of_getElem? (i := 12) rfl))) (mvT hZ (hw _ (List.mem_of_getElem? (i := 3) rfl))) (mvT hZ (hw _ (List.mem_of_getElem? (i := 13) rfl))) (by decide) (backOf (W := 2) (rm3 l Z a0 hw [] v220 v34 v49  h214 n0 Z214 ) hZ (hw _ (List.mem_of_getElem? (i := 13) rfl)) (hw _ (List.mem_of_getElem? (i := 3) rfl)) (by decide) (by decide)) (g := (mkF m 449 #[.val (.int p1), .val (.int p2), .val (.int p3), .val (.int p4), .val (.int p5), .val (.int v1), .val (.ref b2), .val (.ref b24), .val (.ref b36), .val (.ref b51), .val (.int r119), .val (.int r121), .val (.int r124), .val (.int r126), .val (.ref b127), .unset] [(.int v49), (.int v34), (.int v220), (.int (6 : Int32)), (.ref b127)])) rfl (by rw [hml]; rfl) (argsL := [(.int v220), (.int v34), (.int v49)]) (rest := [(.int (6 : Int32)), (.ref b127)]) (lenOf own_pd2 rfl) rfl (by show 2 * 0 + _ ≤ _; exact Nat.le_of_eq rfl) (hb hby at_449) (fun _ _ => ⟨rfl, e214, (by decide : 5 + 0 ≤ _), (by decide : 43 + 0 ≤ _)⟩)
  dsimp only [Pt.U, Pt.locs, Pt.cells, Pt.slots] at X226 l226 y226 z226 st226 hQ226
  rw [l226, y226, z226] at X226
  obtain ⟨rfl, Nq226, e226⟩ := hQ226
  have N226 := Fr.app N214 Nq226
  obtain ⟨cl227, Ar227, q227, S227, M227, H227, G227⟩ := id V214
  have hin227 : ¬ ((6 : Int32) < 0 ∨ cl227.slots.size ≤ ((6 : Int32)).toNatClampNeg) := inb_of S227 ⟨by decide, by decide⟩
  obtain ⟨T228, h228, X228, e228, W228, st228⟩ := stB X226 hx hZ e226 Ar227 (j := (6 : Int32)) hin227 (g := (mkF m 452 #[.val (.int p1), .val (.int p2), .val (.int p3), .val (.int p4), .val (.int p5), .val (.int v1), .val (.ref b2), .val (.ref b24), .val (.ref b36), .val (.ref b51), .val (.int r119), .val (.int r121), .val (.int r124), .val (.int r126), .val (.ref b127), .unset] [(.int (nar .byte (if v220 = (0 : Int32) then v49 else v34))), (.int (6 : Int32)), (.ref b127)])) rfl rfl (hb hby at_452)
  have Z228 : n0 ≤ h228.size := Nat.le_trans Z214 (Nat.le_of_eq W228.size.symm)
  have N228 := Fr.snoc X228 N226 g_b127
  have V228 : Arv Z h228 b127 k127 .byte (10 : Int32) [(.int v145), (.int v159), (.int v173), (.int v187), (.int v201), (.int v215), (.int ((nar .byte (if v220 = (0 : Int32) then v49 else v34)).toInt8.toInt32)), (.int (0 : Int32)), (.int (0 : Int32)), (.int (0 : Int32))] (.int (0 : Int32)) := Arv.set Ar227 q227 S227 M227 H227 G227 (fits_nar_byte _) W228 6 rfl (Nat.le_of_ble_eq_true rfl)
  obtain ⟨v229, hv_v229⟩ : ∃ z : Int32, z = ((nar .byte (if v220 = (0 : Int32) then v49 else v34)).toInt8.toInt32) := ⟨_, rfl⟩
  rw [← hv_v229] at V228
  have go230 : own_go p e below (s₁.setTop (entryFrame m #[(.int p1), (.int p2), (.int p3), (.int p4), (.int p5)] maxLocals)) (T228.setTop (mkF m 461 #[.val (.int p1), .val (.int p2), .val (.int p3), .val (.int p4), .val (.int p5), .val (.int v1), .val (.ref b2), .val (.ref b24), .val (.ref b36), .val (.ref b51), .val (.int r119), .val (.int r121), .val (.int r124), .val (.int r126), .val (.ref b127), .unset] [(.int v1), (.int (7 : Int32)), (.int (7 : Int32)), (.ref b127)])) := by
    intro ttx ktx
    refine go221 ttx ?_
    show Steps p.tables e below (T214.setTop (mkF m 439 #[.val (.int p1), .val (.int p2), .val (.int p3), .val (.int p4), .val (.int p5), .val (.int v1), .val (.ref b2), .val (.ref b24), .val (.ref b36), .val (.ref b51), .val (.int r119), .val (.int r121), .val (.int r124), .val (.int r126), .val (.ref b127), .unset] [(.int v220), (.int (6 : Int32)), (.ref b127)])) _
    refine XS.aload X214.here hx rfl (hb hby at_439) rfl rfl ?_
    show Steps p.tables e below (T214.setTop (mkF m 441 #[.val (.int p1), .val (.int p2), .val (.int p3), .val (.int p4), .val (.int p5), .val (.int v1), .val (.ref b2), .val (.ref b24), .val (.ref b36), .val (.ref b51), .val (.int r119), .val (.int r121), .val (.int r124), .val (.int r126), .val (.ref b127), .unset] [(.ref b24), (.int v220), (.int (6 : Int32)), (.ref b127)])) _
    refine XS.bipush X214.here hx rfl (hb hby at_441) ?_
    show Steps p.tables e below (T214.setTop (mkF m 443 #[.val (.int p1), .val (.int p2), .val (.int p3), .val (.int p4), .val (.int p5), .val (.int v1), .val (.ref b2), .val (.ref b24), .val (.ref b36), .val (.ref b51), .val (.int r119), .val (.int r121), .val (.int r124), .val (.int r126), .val (.ref b127), .unset] [(.int (6 : Int32)), (.ref b24), (.int v220), (.int (6 : Int32)), (.ref b127)])) _
    refine X214.baloadBytes hx (j := (6 : Int32)) (v := (.int v34)) (own_hp e214 Ar223.1) (State.isArrayOf_alike hZ.alike Ar223.2.1) Ar223.2.2 hin223 hat223 (g := (mkF m 443 #[.val (.int p1), .val (.int p2), .val (.int p3), .val (.int p4), .val (.int p5), .val (.int v1), .val (.ref b2), .val (.ref b24), .val (.ref b36), .val (.ref b51), .val (.int r119), .val (.int r121), .val (.int r124), .val (.int r126), .val (.ref b127), .unset] [(.int (6 : Int32)), (.ref b24), (.int v220), (.int (6 : Int32)), (.ref b127)])) rfl rfl (hb hby at_443) _ ?_
    show Steps p.tables e below (T214.setTop (mkF m 444 #[.val (.int p1), .val (.int p2), .val (.int p3), .val (.int p4), .val (.int p5), .val (.int v1), .val (.ref b2), .val (.ref b24), .val (.ref b36), .val (.ref b51), .val (.int r119), .val (.int r121), .val (.int r124), .val (.int r126), .val (.ref b127), .unset] [(.int v34), (.int v220), (.int (6 : Int32)), (.ref b127)])) _
    refine XS.aload X214.here hx rfl (hb hby at_444) rfl rfl ?_
    show Steps p.tables e below (T214.setTop (mkF m 446 #[.val (.int p1), .val (.int p2), .val (.int p3), .val (.int p4), .val (.int p5), .val (.int v1), .val (.ref b2), .val (.ref b24), .val (.ref b36), .val (.ref b51), .val (.int r119), .val (.int r121), .val (.int r124), .val (.int r126), .val (.ref b127), .unset] [(.ref b36), (.int v34), (.int v220), (.int (6 : Int32)), (.ref b127)])) _
    refine XS.bipush X214.here hx rfl (hb hby at_446) ?_
    show Steps p.tables e below (T214.setTop (mkF m 448 #[.val (.int p1), .val (.int p2), .val (.int p3), .val (.int p4), .val (.int p5), .val (.int v1), .val (.ref b2), .val (.ref b24), .val (.ref b36), .val (.ref b51), .val (.int r119), .val (.int r121), .val (.int r124), .val (.int r126), .val (.ref b127), .unset] [(.int (6 : Int32)), (.ref b36), (.int v34), (.int v220), (.int (6 : Int32)), (.ref b127)])) _
    refine X214.baloadBytes hx (j := (6 : Int32)) (v := (.int v49)) (own_hp e214 Ar225.1) (State.isArrayOf_alike hZ.alike Ar225.2.1) Ar225.2.2 hin225 hat225 (g := (mkF m 448 #[.val (.int p1), .val (.int p2), .val (.int p3), .val (.int p4), .val (.int p5), .val (.int v1), .val (.ref b2), .val (.ref b24), .val (.ref b36), .val (.ref b51), .val (.int r119), .val (.int r121), .val (.int r124), .val (.int r126), .val (.ref b127), .unset] [(.int (6 : Int32)), (.ref b36), (.int v34), (.int v220), (.int (6 : Int32)), (.ref b127)])) rfl rfl (hb hby at_448) _ ?_
    show Steps p.tables e below (T214.setTop (mkF m 449 #[.val (.int p1), .val (.int p2), .val (.int p3), .val (.int p4), .val (.int p5), .val (.int v1), .val (.ref b2), .val (.ref b24), .val (.ref b36), .val (.ref b51), .val (.int r119), .val (.int r121), .val (.int r124), .val (.int r126), .val (.ref b127), .unset] [(.int v49), (.int v34), (.int v220), (.int (6 : Int32)), (.ref b127)])) _
    refine st226 _ ?_
    show Steps p.tables e below (T226.setTop (mkF m 452 #[.val (.int p1), .val (.int p2), .val (.int p3), .val (.int p4), .val (.int p5), .val (.int v1), .val (.ref b2), .val (.ref b24), .val (.ref b36), .val (.ref b51), .val (.int r119), .val (.int r121), .val (.int r124), .val (.int r126), .val (.ref b127), .unset] [(.int (nar .byte (if v220 = (0 : Int32) then v49 else v34))), (.int (6 : Int32)), (.ref b127)])) _
    refine st228 _ ?_
    show Steps p.tables e below (T228.setTop (mkF m 453 #[.val (.int p1), .val (.int p2), .val (.int p3), .val (.int p4), .val (.int p5), .val (.int v1), .val (.ref b2), .val (.ref b24), .val (.ref b36), .val (.ref b51), .val (.int r119), .val (.int r121), .val (.int r124), .val (.int r126), .val (.ref b127), .unset] [])) _
    refine XS.aload X228.here hx rfl (hb hby at_453) rfl rfl ?_
    show Steps p.tables e below (T228.setTop (mkF m 455 #[.val (.int p1), .val (.int p2), .val (.int p3), .val (.int p4), .val (.int p5), .val (.int v1), .val (.ref b2), .val (.ref b24), .val (.ref b36), .val (.ref b51), .val (.int r119), .val (.int r121), .val (.int r124), .val (.int r126), .val (.ref b127), .unset] [(.ref b127)])) _
    refine XS.bipush X228.here hx rfl (hb hby at_455) ?_
    show Steps p.tables e below (T228.setTop (mkF m 457 #[.val (.int p1), .val (.int p2), .val (.int p3), .val (.int p4), .val (.int p5), .val (.int v1), .val (.ref b2), .val (.ref b24), .val (.ref b36), .val (.ref b51), .val (.int r119), .val (.int r121), .val (.int r124), .val (.int r126), .val (.ref b127), .unset] [(.int (7 : Int32)), (.ref b127)])) _
    refine XS.bipush X228.here hx rfl (hb hby at_457) ?_
    show Steps p.tables e below (T228.setTop (mkF m 459 #[.val (.int p1), .val (.int p2), .val (.int p3), .val (.int p4), .val (.int p5), .val (.int v1), .val (.ref b2), .val (.ref b24), .val (.ref b36), .val (.ref b51), .val (.int r119), .val (.int r121), .val (.int r124), .val (.int r126), .val (.ref b127), .unset] [(.int (7 : Int32)), (.int (7 : Int32)), (.ref b127)])) _
    refine XS.iload X228.here hx rfl (hb hby at_459) rfl ?_
    exact ktx
  obtain ⟨v234, hv_v234, go235⟩ : ∃ (v234 : Int32), v234 = (if (7 : Int32) < v1 then (1 : Int32) else (0 : Int32)) ∧ own_go p e below (s₁.setTop (entryFrame m #[(.int p1), (.int p2), (.int p3), (.int p4), (.int p5)] maxLocals)) (T228.setTop (mkF m 469 #[.val (.int p1), .val (.int p2), .val (.int p3), .val (.int p4), .val (.int p5), .val (.int v1), .val (.ref b2), .val (.ref b24), .val (.ref b36), .val (.ref b51), .val (.int r119), .val (.int r121), .val (.int r124), .val (.int r126), .val (.ref b127), .unset] [(.int v234), (.int (7 : Int32)), (.ref b127)])) := by
    by_cases hc231_461 : (7 : Int32) < v1
    · have go232 : own_go p e below (s₁.setTop (entryFrame m #[(.int p1), (.int p2), (.int p3), (.int p4), (.int p5)] maxLocals)) (T228.setTop (mkF m 469 #[.val (.int p1), .val (.int p2), .val (.int p3), .val (.int p4), .val (.int p5), .val (.int v1), .val (.ref b2), .val (.ref b24), .val (.ref b36), .val (.ref b51), .val (.int r119), .val (.int r121), .val (.int r124), .val (.int r126), .val (.ref b127), .unset] [(.int (1 : Int32)), (.int (7 : Int32)), (.ref b127)])) := by
        intro ttx ktx
        refine go230 ttx ?_
        show Steps p.tables e below (T228.setTop (mkF m 461 #[.val (.int p1), .val (.int p2), .val (.int p3), .val (.int p4), .val (.int p5), .val (.int v1), .val (.ref b2), .val (.ref b24), .val (.ref b36), .val (.ref b51), .val (.int r119), .val (.int r121), .val (.int r124), .val (.int r126), .val (.ref b127), .unset] [(.int v1), (.int (7 : Int32)), (.int (7 : Int32)), (.ref b127)])) _
        refine XS.icmpNo X228.here hx rfl (hb hby at_461) rfl (tlt hc231_461).2.1 ?_
        show Steps p.tables e below (T228.setTop (mkF m 464 #[.val (.int p1), .val (.int p2), .val (.int p3), .val (.int p4), .val (.int p5), .val (.int v1), .val (.ref b2), .val (.ref b24), .val (.ref b36), .val (.ref b51), .val (.int r119), .val (.int r121), .val (.int r124), .val (.int r126), .val (.ref b127), .unset] [(.int (7 : Int32)), (.ref b127)])) _
        refine XS.iconst X228.here hx rfl (hb hby at_464) ?_
        show Steps p.tables e below (T228.setTop (mkF m 465 #[.val (.int p1), .val (.int p2), .val (.int p3), .val (.int p4), .val (.int p5), .val (.int v1), .val (.ref b2), .val (.ref b24), .val (.ref b36), .val (.ref b51), .val (.int r119), .val (.int r121), .val (.int r124), .val (.int r126), .val (.ref b127), .unset] [(.int (1 : Int32)), (.int (7 : Int32)), (.ref b127)])) _
        refine XS.goto X228.here hx rfl (pc0 := 465) (pc' := 469) rfl (hb hby at_465) (by decide) (by decide) ?_
        exact ktx
      exact ⟨_, (if_pos hc231_461).symm, go232⟩
    · have go233 : own_go p e below (s₁.setTop (entryFrame m #[(.int p1), (.int p2), (.int p3), (.int p4), (.int p5)] maxLocals)) (T228.setTop (mkF m 469 #[.val (.int p1), .val (.int p2), .val (.int p3), .val (.int p4), .val (.int p5), .val (.int v1), .val (.ref b2), .val (.ref b24), .val (.ref b36), .val (.ref b51), .val (.int r119), .val (.int r121), .val (.int r124), .val (.int r126), .val (.ref b127), .unset] [(.int (0 : Int32)), (.int (7 : Int32)), (.ref b127)])) := by
        intro ttx ktx
        refine go230 ttx ?_
        show Steps p.tables e below (T228.setTop (mkF m 461 #[.val (.int p1), .val (.int p2), .val (.int p3), .val (.int p4), .val (.int p5), .val (.int v1), .val (.ref b2), .val (.ref b24), .val (.ref b36), .val (.ref b51), .val (.int r119), .val (.int r121), .val (.int r124), .val (.int r126), .val (.ref b127), .unset] [(.int v1), (.int (7 : Int32)), (.int (7 : Int32)), (.ref b127)])) _
        refine XS.icmpYes X228.here hx rfl (pc0 := 461) (pc' := 468) rfl (hb hby at_461) rfl (flt hc231_461).2.1 (by decide) (by decide) ?_
        show Steps p.tables e below (T228.setTop (mkF m 468 #[.val (.int p1), .val (.int p2), .val (.int p3), .val (.int p4), .val (.int p5), .val (.int v1), .val (.ref b2), .val (.ref b24), .val (.ref b36), .val (.ref b51), .val (.int r119), .val (.int r121), .val (.int r124), .val (.int r126), .val (.ref b127), .unset] [(.int (7 : Int32)), (.ref b127)])) _
        refine XS.iconst X228.here hx rfl (hb hby at_468) ?_
        exact ktx
      exact ⟨_, (if_neg hc231_461).symm, go233⟩
  have f236 := (f222.other W228 ne129)
  obtain ⟨cl237, Ar237, q237, S237, M237, H237, G237⟩ := id f236
  have hin237 : ¬ ((7 : Int32) < 0 ∨ cl237.slots.size ≤ ((7 : Int32)).toNatClampNeg) := inb_of S237 ⟨by decide, by decide⟩
  have hat237 : cl237.slots[((7 : Int32)).toNatClampNeg]? = some (.int v35) := Has.at H237 hin237 rfl
  have f238 := (f224.other W228 ne130)
  obtain ⟨cl239, Ar239, q239, S239, M239, H239, G239⟩ := id f238
  have hin239 : ¬ ((7 : Int32) < 0 ∨ cl239.slots.size ≤ ((7 : Int32)).toNatClampNeg) := inb_of S239 ⟨by decide, by decide⟩
  have hat239 : cl239.slots[((7 : Int32)).toNatClampNeg]? = some (.int v50) := Has.at H239 hin239 rfl
  obtain ⟨_, _, ⟨T240, L240, k240, n240⟩, -, X240, ⟨Lc240, hQ240, l240, y240, z240⟩, st240⟩ := Jvm.LawKit.callS X228 hx (y := (⟨"io/subjectwire/auth/Crc16OfPinLaw", "pick", "(ZBB)B"⟩ : MethodName)) hown (mvT hZ (hw _ (List.mem_of_getElem? (i := 11) rfl))) (mvT hZ (hw _ (List.mem_of_getElem? (i := 12) rfl))) (mvT hZ (hw _ (List.mem_of_getElem? (i := 3) rfl))) (mvT hZ (hw _ (List.mem_of_getElem? (i := 13) rfl))) (by decide) (backOf (W := 2) (rm3 l Z a0 hw [] v234 v35 v50  h228 n0 Z228 ) hZ (hw _ (List.mem_of_getElem? (i := 13) rfl)) (hw _ (List.mem_of_getElem? (i := 3) rfl)) (by decide) (by decide)) (g := (mkF m 479 #[.val (.int p1), .val (.int p2), .val (.int p3), .val (.int p4), .val (.int p5), .val (.int v1), .val (.ref b2), .val (.ref b24), .val (.ref b36), .val (.ref b51), .val (.int r119), .val (.int r121), .val (.int r124), .val (.int r126), .val (.ref b127), .unset] [(.int v50), (.int v35), (.int v234), (.int (7 : Int32)), (.ref b127)])) rfl (by rw [hml]; rfl) (argsL := [(.int v234), (.int v35), (.int v50)]) (rest := [(.int (7 : Int32)), (.ref b127)]) (lenOf own_pd2 rfl) rfl (by show 2 * 0 + _ ≤ _; exact Nat.le_of_eq rfl) (hb hby at_479) (fun _ _ => ⟨rfl, e228, (by decide : 5 + 0 ≤ _), (by decide : 43 + 0 ≤ _)⟩)
  dsimp only [Pt.U, Pt.locs, Pt.cells, Pt.slots] at X240 l240 y240 z240 st240 hQ240
  rw [l240, y240, z240] at X240
  obtain ⟨rfl, Nq240, e240⟩ := hQ240
  have N240 := Fr.app N228 Nq240
  obtain ⟨cl241, Ar241, q241, S241, M241, H241, G241⟩ := id V228
  have hin241 : ¬ ((7 : Int32) < 0 ∨ cl241.slots.size ≤ ((7 : Int32)).toNatClampNeg) := inb_of S241 ⟨by decide, by decide⟩
  obtain ⟨T242, h242, X242, e242, W242, st242⟩ := stB X240 hx hZ e240 Ar241 (j := (7 : Int32)) hin241 (g := (mkF m 482 #[.val (.int p1), .val (.int p2), .val (.int p3), .val (.int p4), .val (.int p5), .val (.int v1), .val (.ref b2), .val (.ref b24), .val (.ref b36), .val (.ref b51), .val (.int r119), .val (.int r121), .val (.int r124), .val (.int r126), .val (.ref b127), .unset] [(.int (nar .byte (if v234 = (0 : Int32) then v50 else v35))), (.int (7 : Int32)), (.ref b127)])) rfl rfl (hb hby at_482)
  have Z242 : n0 ≤ h242.size := Nat.le_trans Z228 (Nat.le_of_eq W242.size.symm)
  have N242 := Fr.snoc X242 N240 g_b127
  have V242 : Arv Z h242 b127 k127 .byte (10 : Int32) [(.int v145), (.int v159), (.int v173), (.int v187), (.int v201), (.int v215), (.int v229), (.int ((nar .byte (if v234 = (0 : Int32) then v50 else v35)).toInt8.toInt32)), (.int (0 : Int32)), (.int (0 : Int32))] (.int (0 : Int32)) := Arv.set Ar241 q241 S241 M241 H241 G241 (fits_nar_byte _) W242 7 rfl (Nat.le_of_ble_eq_true rfl)
  obtain ⟨v243, hv_v243⟩ : ∃ z : Int32, z = ((nar .byte (if v234 = (0 : Int32) then v50 else v35)).toInt8.toInt32) := ⟨_, rfl⟩
  rw [← hv_v243] at V242
  obtain ⟨cl244, Ar244, q244, S244, M244, H244, G244⟩ := id V242
  have hin244 : ¬ ((8 : Int32) < 0 ∨ cl244.slots.size ≤ ((8 : Int32)).toNatClampNeg) := inb_of S244 ⟨by decide, by decide⟩
  obtain ⟨T245, h245, X245, e245, W245, st245⟩ := stB X242 hx hZ e242 Ar244 (j := (8 : Int32)) hin244 (g := (mkF m 493 #[.val (.int p1), .val (.int p2), .val (.int p3), .val (.int p4), .val (.int p5), .val (.int v1), .val (.ref b2), .val (.ref b24), .val (.ref b36), .val (.ref b51), .val (.int r119), .val (.int r121), .val (.int r124), .val (.int r126), .val (.ref b127), .unset] [(.int (((p5.toUInt32 >>> ((8 : Int32) &&& 31).toUInt32).toInt32).toInt8.toInt32)), (.int (8 : Int32)), (.ref b127)])) rfl rfl (hb hby at_493)
  have Z245 : n0 ≤ h245.size := Nat.le_trans Z242 (Nat.le_of_eq W245.size.symm)
  have N245 := Fr.snoc X245 N242 g_b127
  have V245 : Arv Z h245 b127 k127 .byte (10 : Int32) [(.int v145), (.int v159), (.int v173), (.int v187), (.int v201), (.int v215), (.int v229), (.int v243), (.int ((((p5.toUInt32 >>> ((8 : Int32) &&& 31).toUInt32).toInt32).toInt8.toInt32).toInt8.toInt32)), (.int (0 : Int32))] (.int (0 : Int32)) := Arv.set Ar244 q244 S244 M244 H244 G244 (fits_nar_byte _) W245 8 rfl (Nat.le_of_ble_eq_true rfl)
  obtain ⟨v246, hv_v246⟩ : ∃ z : Int32, z = ((((p5.toUInt32 >>> ((8 : Int32) &&& 31).toUInt32).toInt32).toInt8.toInt32).toInt8.toInt32) := ⟨_, rfl⟩
  rw [← hv_v246] at V245
  have go247 : own_go p e below (s₁.setTop (entryFrame m #[(.int p1), (.int p2), (.int p3), (.int p4), (.int p5)] maxLocals)) (T245.setTop (mkF m 494 #[.val (.int p1), .val (.int p2), .val (.int p3), .val (.int p4), .val (.int p5), .val (.int v1), .val (.ref b2), .val (.ref b24), .val (.ref b36), .val (.ref b51), .val (.int r119), .val (.int r121), .val (.int r124), .val (.int r126), .val (.ref b127), .unset] [])) := by
    intro ttx ktx
    refine go235 ttx ?_
    show Steps p.tables e below (T228.setTop (mkF m 469 #[.val (.int p1), .val (.int p2), .val (.int p3), .val (.int p4), .val (.int p5), .val (.int v1), .val (.ref b2), .val (.ref b24), .val (.ref b36), .val (.ref b51), .val (.int r119), .val (.int r121), .val (.int r124), .val (.int r126), .val (.ref b127), .unset] [(.int v234), (.int (7 : Int32)), (.ref b127)])) _
    refine XS.aload X228.here hx rfl (hb hby at_469) rfl rfl ?_
    show Steps p.tables e below (T228.setTop (mkF m 471 #[.val (.int p1), .val (.int p2), .val (.int p3), .val (.int p4), .val (.int p5), .val (.int v1), .val (.ref b2), .val (.ref b24), .val (.ref b36), .val (.ref b51), .val (.int r119), .val (.int r121), .val (.int r124), .val (.int r126), .val (.ref b127), .unset] [(.ref b24), (.int v234), (.int (7 : Int32)), (.ref b127)])) _
    refine XS.bipush X228.here hx rfl (hb hby at_471) ?_
    show Steps p.tables e below (T228.setTop (mkF m 473 #[.val (.int p1), .val (.int p2), .val (.int p3), .val (.int p4), .val (.int p5), .val (.int v1), .val (.ref b2), .val (.ref b24), .val (.ref b36), .val (.ref b51), .val (.int r119), .val (.int r121), .val (.int r124), .val (.int r126), .val (.ref b127), .unset] [(.int (7 : Int32)), (.ref b24), (.int v234), (.int (7 : Int32)), (.ref b127)])) _
    refine X228.baloadBytes hx (j := (7 : Int32)) (v := (.int v35)) (own_hp e228 Ar237.1) (State.isArrayOf_alike hZ.alike Ar237.2.1) Ar237.2.2 hin237 hat237 (g := (mkF m 473 #[.val (.int p1), .val (.int p2), .val (.int p3), .val (.int p4), .val (.int p5), .val (.int v1), .val (.ref b2), .val (.ref b24), .val (.ref b36), .val (.ref b51), .val (.int r119), .val (.int r121), .val (.int r124), .val (.int r126), .val (.ref b127), .unset] [(.int (7 : Int32)), (.ref b24), (.int v234), (.int (7 : Int32)), (.ref b127)])) rfl rfl (hb hby at_473) _ ?_
    show Steps p.tables e below (T228.setTop (mkF m 474 #[.val (.int p1), .val (.int p2), .val (.int p3), .val (.int p4), .val (.int p5), .val (.int v1), .val (.ref b2), .val (.ref b24), .val (.ref b36), .val (.ref b51), .val (.int r119), .val (.int r121), .val (.int r124), .val (.int r126), .val (.ref b127), .unset] [(.int v35), (.int v234), (.int (7 : Int32)), (.ref b127)])) _
    refine XS.aload X228.here hx rfl (hb hby at_474) rfl rfl ?_
    show Steps p.tables e below (T228.setTop (mkF m 476 #[.val (.int p1), .val (.int p2), .val (.int p3), .val (.int p4), .val (.int p5), .val (.int v1), .val (.ref b2), .val (.ref b24), .val (.ref b36), .val (.ref b51), .val (.int r119), .val (.int r121), .val (.int r124), .val (.int r126), .val (.ref b127), .unset] [(.ref b36), (.int v35), (.int v234), (.int (7 : Int32)), (.ref b127)])) _
    refine XS.bipush X228.here hx rfl (hb hby at_476) ?_
    show Steps p.tables e below (T228.setTop (mkF m 478 #[.val (.int p1), .val (.int p2), .val (.int p3), .val (.int p4), .val (.int p5), .val (.int v1), .val (.ref b2), .val (.ref b24), .val (.ref b36), .val (.ref b51), .val (.int r119), .val (.int r121), .val (.int r124), .val (.int r126), .val (.ref b127), .unset] [(.int (7 : Int32)), (.ref b36), (.int v35), (.int v234), (.int (7 : Int32)), (.ref b127)])) _
    refine X228.baloadBytes hx (j := (7 : Int32)) (v := (.int v50)) (own_hp e228 Ar239.1) (State.isArrayOf_alike hZ.alike Ar239.2.1) Ar239.2.2 hin239 hat239 (g := (mkF m 478 #[.val (.int p1), .val (.int p2), .val (.int p3), .val (.int p4), .val (.int p5), .val (.int v1), .val (.ref b2), .val (.ref b24), .val (.ref b36), .val (.ref b51), .val (.int r119), .val (.int r121), .val (.int r124), .val (.int r126), .val (.ref b127), .unset] [(.int (7 : Int32)), (.ref b36), (.int v35), (.int v234), (.int (7 : Int32)), (.ref b127)])) rfl rfl (hb hby at_478) _ ?_
    show Steps p.tables e below (T228.setTop (mkF m 479 #[.val (.int p1), .val (.int p2), .val (.int p3), .val (.int p4), .val (.int p5), .val (.int v1), .val (.ref b2), .val (.ref b24), .val (.ref b36), .val (.ref b51), .val (.int r119), .val (.int r121), .val (.int r124), .val (.int r126), .val (.ref b127), .unset] [(.int v50), (.int v35), (.int v234), (.int (7 : Int32)), (.ref b127)])) _
    refine st240 _ ?_
    show Steps p.tables e below (T240.setTop (mkF m 482 #[.val (.int p1), .val (.int p2), .val (.int p3), .val (.int p4), .val (.int p5), .val (.int v1), .val (.ref b2), .val (.ref b24), .val (.ref b36), .val (.ref b51), .val (.int r119), .val (.int r121), .val (.int r124), .val (.int r126), .val (.ref b127), .unset] [(.int (nar .byte (if v234 = (0 : Int32) then v50 else v35))), (.int (7 : Int32)), (.ref b127)])) _
    refine st242 _ ?_
    show Steps p.tables e below (T242.setTop (mkF m 483 #[.val (.int p1), .val (.int p2), .val (.int p3), .val (.int p4), .val (.int p5), .val (.int v1), .val (.ref b2), .val (.ref b24), .val (.ref b36), .val (.ref b51), .val (.int r119), .val (.int r121), .val (.int r124), .val (.int r126), .val (.ref b127), .unset] [])) _
    refine XS.aload X242.here hx rfl (hb hby at_483) rfl rfl ?_
    show Steps p.tables e below (T242.setTop (mkF m 485 #[.val (.int p1), .val (.int p2), .val (.int p3), .val (.int p4), .val (.int p5), .val (.int v1), .val (.ref b2), .val (.ref b24), .val (.ref b36), .val (.ref b51), .val (.int r119), .val (.int r121), .val (.int r124), .val (.int r126), .val (.ref b127), .unset] [(.ref b127)])) _
    refine XS.bipush X242.here hx rfl (hb hby at_485) ?_
    show Steps p.tables e below (T242.setTop (mkF m 487 #[.val (.int p1), .val (.int p2), .val (.int p3), .val (.int p4), .val (.int p5), .val (.int v1), .val (.ref b2), .val (.ref b24), .val (.ref b36), .val (.ref b51), .val (.int r119), .val (.int r121), .val (.int r124), .val (.int r126), .val (.ref b127), .unset] [(.int (8 : Int32)), (.ref b127)])) _
    refine XS.iload X242.here hx rfl (hb hby at_487) rfl ?_
    show Steps p.tables e below (T242.setTop (mkF m 489 #[.val (.int p1), .val (.int p2), .val (.int p3), .val (.int p4), .val (.int p5), .val (.int v1), .val (.ref b2), .val (.ref b24), .val (.ref b36), .val (.ref b51), .val (.int r119), .val (.int r121), .val (.int r124), .val (.int r126), .val (.ref b127), .unset] [(.int p5), (.int (8 : Int32)), (.ref b127)])) _
    refine XS.bipush X242.here hx rfl (hb hby at_489) ?_
    show Steps p.tables e below (T242.setTop (mkF m 491 #[.val (.int p1), .val (.int p2), .val (.int p3), .val (.int p4), .val (.int p5), .val (.int v1), .val (.ref b2), .val (.ref b24), .val (.ref b36), .val (.ref b51), .val (.int r119), .val (.int r121), .val (.int r124), .val (.int r126), .val (.ref b127), .unset] [(.int (8 : Int32)), (.int p5), (.int (8 : Int32)), (.ref b127)])) _
    refine XS.iushr X242.here hx rfl (hb hby at_491) rfl ?_
    show Steps p.tables e below (T242.setTop (mkF m 492 #[.val (.int p1), .val (.int p2), .val (.int p3), .val (.int p4), .val (.int p5), .val (.int v1), .val (.ref b2), .val (.ref b24), .val (.ref b36), .val (.ref b51), .val (.int r119), .val (.int r121), .val (.int r124), .val (.int r126), .val (.ref b127), .unset] [(.int ((p5.toUInt32 >>> ((8 : Int32) &&& 31).toUInt32).toInt32)), (.int (8 : Int32)), (.ref b127)])) _
    refine XS.i2b X242.here hx rfl (hb hby at_492) rfl ?_
    show Steps p.tables e below (T242.setTop (mkF m 493 #[.val (.int p1), .val (.int p2), .val (.int p3), .val (.int p4), .val (.int p5), .val (.int v1), .val (.ref b2), .val (.ref b24), .val (.ref b36), .val (.ref b51), .val (.int r119), .val (.int r121), .val (.int r124), .val (.int r126), .val (.ref b127), .unset] [(.int (((p5.toUInt32 >>> ((8 : Int32) &&& 31).toUInt32).toInt32).toInt8.toInt32)), (.int (8 : Int32)), (.ref b127)])) _
    refine st245 _ ?_
    exact ktx
  obtain ⟨cl248, Ar248, q248, S248, M248, H248, G248⟩ := id V245
  have hin248 : ¬ ((9 : Int32) < 0 ∨ cl248.slots.size ≤ ((9 : Int32)).toNatClampNeg) := inb_of S248 ⟨by decide, by decide⟩
  obtain ⟨T249, h249, X249, e249, W249, st249⟩ := stB X245 hx hZ e245 Ar248 (j := (9 : Int32)) hin248 (g := (mkF m 504 #[.val (.int p1), .val (.int p2), .val (.int p3), .val (.int p4), .val (.int p5), .val (.int v1), .val (.ref b2), .val (.ref b24), .val (.ref b36), .val (.ref b51), .val (.int r119), .val (.int r121), .val (.int r124), .val (.int r126), .val (.ref b127), .unset] [(.int (((p5.toUInt32 >>> ((16 : Int32) &&& 31).toUInt32).toInt32).toInt8.toInt32)), (.int (9 : Int32)), (.ref b127)])) rfl rfl (hb hby at_504)
  have Z249 : n0 ≤ h249.size := Nat.le_trans Z245 (Nat.le_of_eq W249.size.symm)
  have N249 := Fr.snoc X249 N245 g_b127
  have V249 : Arv Z h249 b127 k127 .byte (10 : Int32) [(.int v145), (.int v159), (.int v173), (.int v187), (.int v201), (.int v215), (.int v229), (.int v243), (.int v246), (.int ((((p5.toUInt32 >>> ((16 : Int32) &&& 31).toUInt32).toInt32).toInt8.toInt32).toInt8.toInt32))] (.int (0 : Int32)) := Arv.set Ar248 q248 S248 M248 H248 G248 (fits_nar_byte _) W249 9 rfl (Nat.le_of_ble_eq_true rfl)
  obtain ⟨v250, hv_v250⟩ : ∃ z : Int32, z = ((((p5.toUInt32 >>> ((16 : Int32) &&& 31).toUInt32).toInt32).toInt8.toInt32).toInt8.toInt32) := ⟨_, rfl⟩
  rw [← hv_v250] at V249
  obtain ⟨cl251, Ar251, q251, S251, M251, H251, G251⟩ := id V249
  have hin251 : ¬ (v1 < 0 ∨ cl251.slots.size ≤ (v1).toNatClampNeg) := inb_of S251 (by rw [hln]; exact own_p0 hl7)
  obtain ⟨T252, h252, X252, e252, W252, st252⟩ := stB X249 hx hZ e249 Ar251 (j := v1) hin251 (g := (mkF m 515 #[.val (.int p1), .val (.int p2), .val (.int p3), .val (.int p4), .val (.int p5), .val (.int v1), .val (.ref b2), .val (.ref b24), .val (.ref b36), .val (.ref b51), .val (.int r119), .val (.int r121), .val (.int r124), .val (.int r126), .val (.ref b127), .unset] [(.int (((r121.toUInt32 >>> ((8 : Int32) &&& 31).toUInt32).toInt32).toInt8.toInt32)), (.int v1), (.ref b127)])) rfl rfl (hb hby at_515)
  have Z252 : n0 ≤ h252.size := Nat.le_trans Z249 (Nat.le_of_eq W252.size.symm)
  have N252 := Fr.snoc X252 N249 g_b127
  have V252 := Arv.set Ar251 q251 S251 M251 H251 G251 (fits_nar_byte _) W252 ln (by rw [hln]; exact own_tc _ (own_l100 hl7).1) (own_l10 hl7)
  have go253 : own_go p e below (s₁.setTop (entryFrame m #[(.int p1), (.int p2), (.int p3), (.int p4), (.int p5)] maxLocals)) (T252.setTop (mkF m 518 #[.val (.int p1), .val (.int p2), .val (.int p3), .val (.int p4), .val (.int p5), .val (.int v1), .val (.ref b2), .val (.ref b24), .val (.ref b36), .val (.ref b51), .val (.int r119), .val (.int r121), .val (.int r124), .val (.int r126), .val (.ref b127), .unset] [(.ref b127)])) := by
    intro ttx ktx
    refine go247 ttx ?_
    show Steps p.tables e below (T245.setTop (mkF m 494 #[.val (.int p1), .val (.int p2), .val (.int p3), .val (.int p4), .val (.int p5), .val (.int v1), .val (.ref b2), .val (.ref b24), .val (.ref b36), .val (.ref b51), .val (.int r119), .val (.int r121), .val (.int r124), .val (.int r126), .val (.ref b127), .unset] [])) _
    refine XS.aload X245.here hx rfl (hb hby at_494) rfl rfl ?_
    show Steps p.tables e below (T245.setTop (mkF m 496 #[.val (.int p1), .val (.int p2), .val (.int p3), .val (.int p4), .val (.int p5), .val (.int v1), .val (.ref b2), .val (.ref b24), .val (.ref b36), .val (.ref b51), .val (.int r119), .val (.int r121), .val (.int r124), .val (.int r126), .val (.ref b127), .unset] [(.ref b127)])) _
    refine XS.bipush X245.here hx rfl (hb hby at_496) ?_
    show Steps p.tables e below (T245.setTop (mkF m 498 #[.val (.int p1), .val (.int p2), .val (.int p3), .val (.int p4), .val (.int p5), .val (.int v1), .val (.ref b2), .val (.ref b24), .val (.ref b36), .val (.ref b51), .val (.int r119), .val (.int r121), .val (.int r124), .val (.int r126), .val (.ref b127), .unset] [(.int (9 : Int32)), (.ref b127)])) _
    refine XS.iload X245.here hx rfl (hb hby at_498) rfl ?_
    show Steps p.tables e below (T245.setTop (mkF m 500 #[.val (.int p1), .val (.int p2), .val (.int p3), .val (.int p4), .val (.int p5), .val (.int v1), .val (.ref b2), .val (.ref b24), .val (.ref b36), .val (.ref b51), .val (.int r119), .val (.int r121), .val (.int r124), .val (.int r126), .val (.ref b127), .unset] [(.int p5), (.int (9 : Int32)), (.ref b127)])) _
    refine XS.bipush X245.here hx rfl (hb hby at_500) ?_
    show Steps p.tables e below (T245.setTop (mkF m 502 #[.val (.int p1), .val (.int p2), .val (.int p3), .val (.int p4), .val (.int p5), .val (.int v1), .val (.ref b2), .val (.ref b24), .val (.ref b36), .val (.ref b51), .val (.int r119), .val (.int r121), .val (.int r124), .val (.int r126), .val (.ref b127), .unset] [(.int (16 : Int32)), (.int p5), (.int (9 : Int32)), (.ref b127)])) _
    refine XS.iushr X245.here hx rfl (hb hby at_502) rfl ?_
    show Steps p.tables e below (T245.setTop (mkF m 503 #[.val (.int p1), .val (.int p2), .val (.int p3), .val (.int p4), .val (.int p5), .val (.int v1), .val (.ref b2), .val (.ref b24), .val (.ref b36), .val (.ref b51), .val (.int r119), .val (.int r121), .val (.int r124), .val (.int r126), .val (.ref b127), .unset] [(.int ((p5.toUInt32 >>> ((16 : Int32) &&& 31).toUInt32).toInt32)), (.int (9 : Int32)), (.ref b127)])) _
    refine XS.i2b X245.here hx rfl (hb hby at_503) rfl ?_
    show Steps p.tables e below (T245.setTop (mkF m 504 #[.val (.int p1), .val (.int p2), .val (.int p3), .val (.int p4), .val (.int p5), .val (.int v1), .val (.ref b2), .val (.ref b24), .val (.ref b36), .val (.ref b51), .val (.int r119), .val (.int r121), .val (.int r124), .val (.int r126), .val (.ref b127), .unset] [(.int (((p5.toUInt32 >>> ((16 : Int32) &&& 31).toUInt32).toInt32).toInt8.toInt32)), (.int (9 : Int32)), (.ref b127)])) _
    refine st249 _ ?_
    show Steps p.tables e below (T249.setTop (mkF m 505 #[.val (.int p1), .val (.int p2), .val (.int p3), .val (.int p4), .val (.int p5), .val (.int v1), .val (.ref b2), .val (.ref b24), .val (.ref b36), .val (.ref b51), .val (.int r119), .val (.int r121), .val (.int r124), .val (.int r126), .val (.ref b127), .unset] [])) _
    refine XS.aload X249.here hx rfl (hb hby at_505) rfl rfl ?_
    show Steps p.tables e below (T249.setTop (mkF m 507 #[.val (.int p1), .val (.int p2), .val (.int p3), .val (.int p4), .val (.int p5), .val (.int v1), .val (.ref b2), .val (.ref b24), .val (.ref b36), .val (.ref b51), .val (.int r119), .val (.int r121), .val (.int r124), .val (.int r126), .val (.ref b127), .unset] [(.ref b127)])) _
    refine XS.iload X249.here hx rfl (hb hby at_507) rfl ?_
    show Steps p.tables e below (T249.setTop (mkF m 509 #[.val (.int p1), .val (.int p2), .val (.int p3), .val (.int p4), .val (.int p5), .val (.int v1), .val (.ref b2), .val (.ref b24), .val (.ref b36), .val (.ref b51), .val (.int r119), .val (.int r121), .val (.int r124), .val (.int r126), .val (.ref b127), .unset] [(.int v1), (.ref b127)])) _
    refine XS.iload X249.here hx rfl (hb hby at_509) rfl ?_
    show Steps p.tables e below (T249.setTop (mkF m 511 #[.val (.int p1), .val (.int p2), .val (.int p3), .val (.int p4), .val (.int p5), .val (.int v1), .val (.ref b2), .val (.ref b24), .val (.ref b36), .val (.ref b51), .val (.int r119), .val (.int r121), .val (.int r124), .val (.int r126), .val (.ref b127), .unset] [(.int r121), (.int v1), (.ref b127)])) _
    refine XS.bipush X249.here hx rfl (hb hby at_511) ?_
    show Steps p.tables e below (T249.setTop (mkF m 513 #[.val (.int p1), .val (.int p2), .val (.int p3), .val (.int p4), .val (.int p5), .val (.int v1), .val (.ref b2), .val (.ref b24), .val (.ref b36), .val (.ref b51), .val (.int r119), .val (.int r121), .val (.int r124), .val (.int r126), .val (.ref b127), .unset] [(.int (8 : Int32)), (.int r121), (.int v1), (.ref b127)])) _
    refine XS.iushr X249.here hx rfl (hb hby at_513) rfl ?_
    show Steps p.tables e below (T249.setTop (mkF m 514 #[.val (.int p1), .val (.int p2), .val (.int p3), .val (.int p4), .val (.int p5), .val (.int v1), .val (.ref b2), .val (.ref b24), .val (.ref b36), .val (.ref b51), .val (.int r119), .val (.int r121), .val (.int r124), .val (.int r126), .val (.ref b127), .unset] [(.int ((r121.toUInt32 >>> ((8 : Int32) &&& 31).toUInt32).toInt32)), (.int v1), (.ref b127)])) _
    refine XS.i2b X249.here hx rfl (hb hby at_514) rfl ?_
    show Steps p.tables e below (T249.setTop (mkF m 515 #[.val (.int p1), .val (.int p2), .val (.int p3), .val (.int p4), .val (.int p5), .val (.int v1), .val (.ref b2), .val (.ref b24), .val (.ref b36), .val (.ref b51), .val (.int r119), .val (.int r121), .val (.int r124), .val (.int r126), .val (.ref b127), .unset] [(.int (((r121.toUInt32 >>> ((8 : Int32) &&& 31).toUInt32).toInt32).toInt8.toInt32)), (.int v1), (.ref b127)])) _
    refine st252 _ ?_
    show Steps p.tables e below (T252.setTop (mkF m 516 #[.val (.int p1), .val (.int p2), .val (.int p3), .val (.int p4), .val (.int p5), .val (.int v1), .val (.ref b2), .val (.ref b24), .val (.ref b36), .val (.ref b51), .val (.int r119), .val (.int r121), .val (.int r124), .val (.int r126), .val (.ref b127), .unset] [])) _
    refine XS.aload X252.here hx rfl (hb hby at_516) rfl rfl ?_
    exact ktx
  obtain ⟨cl254, Ar254, q254, S254, M254, H254, G254⟩ := id V252
  have hin254 : ¬ ((v1 + (1 : Int32)) < 0 ∨ cl254.slots.size ≤ ((v1 + (1 : Int32))).toNatClampNeg) := inb_of S254 (by rw [hln]; exact own_p1 hl7)
  obtain ⟨T255, h255, X255, e255, W255, st255⟩ := stB X252 hx hZ e252 Ar254 (j := (v1 + (1 : Int32))) hin254 (g := (mkF m 525 #[.val (.int p1), .val (.int p2), .val (.int p3), .val (.int p4), .val (.int p5), .val (.int v1), .val (.ref b2), .val (.ref b24), .val (.ref b36), .val (.ref b51), .val (.int r119), .val (.int r121), .val (.int r124), .val (.int r126), .val (.ref b127), .unset] [(.int (r121.toInt8.toInt32)), (.int (v1 + (1 : Int32))), (.ref b127)])) rfl rfl (hb hby at_525)
  have Z255 : n0 ≤ h255.size := Nat.le_trans Z252 (Nat.le_of_eq W255.size.symm)
  have N255 := Fr.snoc X255 N252 g_b127
  have V255 := Arv.set Ar254 q254 S254 M254 H254 G254 (fits_nar_byte _) W255 (ln + 1) (by rw [hln, own_up]; exact own_tc _ (own_l100 hl7).2) (by rw [List.length_set]; exact own_l11 hl7)
  have Vz : Arv Z h255 b127 k127 .byte (10 : Int32) (((([v145, v159, v173, v187, v201, v215, v229, v243, v246, v250] : List Int32).set ln ((((r121.toUInt32 >>> ((8 : Int32) &&& 31).toUInt32).toInt32).toInt8.toInt32).toInt8.toInt32)).set (ln + 1) ((r121.toInt8.toInt32).toInt8.toInt32)).map Value.int) (.int (0 : Int32)) := by rw [List.map_set, List.map_set]; exact V255
  obtain ⟨_, _, ⟨T256, L256, k256, n256⟩, -, X256, ⟨Lc256, hQ256, l256, y256, z256⟩, st256⟩ := Jvm.LawKit.callS X255 hx (y := (⟨"io/subjectwire/auth/Crc16", "of", "([BI)I"⟩ : MethodName)) hown (mvT hZ (hw _ (List.mem_of_getElem? (i := 5) rfl))) (mvT hZ (hw _ (List.mem_of_getElem? (i := 6) rfl))) (mvT hZ (hw _ (List.mem_of_getElem? (i := 7) rfl))) (mvT hZ (hw _ (List.mem_of_getElem? (i := 8) rfl))) (by decide) (backOf (W := 0) (rmOF l Z a0 hw [] b127 (v1 + (2 : Int32)) (ln + 2) k127 (10 : Int32) ((([v145, v159, v173, v187, v201, v215, v229, v243, v246, v250] : List Int32).set ln ((((r121.toUInt32 >>> ((8 : Int32) &&& 31).toUInt32).toInt32).toInt8.toInt32).toInt8.toInt32)).set (ln + 1) ((r121.toInt8.toInt32).toInt8.toInt32)) h255 n0 Z255 Vz (by rw [hln]; exact own_up2 _) (own_l22 hl7) (own_i10 hl7)) hZ (hw _ (List.mem_of_getElem? (i := 8) rfl)) (hw _ (List.mem_of_getElem? (i := 7) rfl)) (by decide) (by decide)) (g := (mkF m 532 #[.val (.int p1), .val (.int p2), .val (.int p3), .val (.int p4), .val (.int p5), .val (.int v1), .val (.ref b2), .val (.ref b24), .val (.ref b36), .val (.ref b51), .val (.int r119), .val (.int r121), .val (.int r124), .val (.int r126), .val (.ref b127), .unset] [(.int (v1 + (2 : Int32))), (.ref b127)])) rfl (by rw [hml]; rfl) (argsL := [(.ref b127), (.int (v1 + (2 : Int32)))]) (rest := []) (lenOf own_pd1 rfl) rfl (by show 2 * 0 + _ ≤ _; exact Nat.le_of_eq rfl) (hb hby at_532) (fun _ _ => ⟨rfl, e255, (by decide : 5 + 0 ≤ _), (by decide : 43 + 0 ≤ _)⟩)
  dsimp only [Pt.U, Pt.locs, Pt.cells, Pt.slots] at X256 l256 y256 z256 st256 hQ256
  rw [l256, y256, z256] at X256
  obtain ⟨r256, rfl, Nq256, e256, hr256⟩ := hQ256
  have N256 := Fr.app N255 Nq256
  have hv_r256 := hr256
  have hc257_542 : r119 = (12739 : Int32) := by rw [hv_r119]; decide +kernel
  have go258 : own_go p e below (s₁.setTop (entryFrame m #[(.int p1), (.int p2), (.int p3), (.int p4), (.int p5)] maxLocals)) (T256.setTop (mkF m 545 #[.val (.int p1), .val (.int p2), .val (.int p3), .val (.int p4), .val (.int p5), .val (.int v1), .val (.ref b2), .val (.ref b24), .val (.ref b36), .val (.ref b51), .val (.int r119), .val (.int r121), .val (.int r124), .val (.int r126), .val (.ref b127), .val (.int r256)] [])) := by
    intro ttx ktx
    refine go253 ttx ?_
    show Steps p.tables e below (T252.setTop (mkF m 518 #[.val (.int p1), .val (.int p2), .val (.int p3), .val (.int p4), .val (.int p5), .val (.int v1), .val (.ref b2), .val (.ref b24), .val (.ref b36), .val (.ref b51), .val (.int r119), .val (.int r121), .val (.int r124), .val (.int r126), .val (.ref b127), .unset] [(.ref b127)])) _
    refine XS.iload X252.here hx rfl (hb hby at_518) rfl ?_
    show Steps p.tables e below (T252.setTop (mkF m 520 #[.val (.int p1), .val (.int p2), .val (.int p3), .val (.int p4), .val (.int p5), .val (.int v1), .val (.ref b2), .val (.ref b24), .val (.ref b36), .val (.ref b51), .val (.int r119), .val (.int r121), .val (.int r124), .val (.int r126), .val (.ref b127), .unset] [(.int v1), (.ref b127)])) _
    refine XS.iconst X252.here hx rfl (hb hby at_520) ?_
    show Steps p.tables e below (T252.setTop (mkF m 521 #[.val (.int p1), .val (.int p2), .val (.int p3), .val (.int p4), .val (.int p5), .val (.int v1), .val (.ref b2), .val (.ref b24), .val (.ref b36), .val (.ref b51), .val (.int r119), .val (.int r121), .val (.int r124), .val (.int r126), .val (.ref b127), .unset] [(.int (1 : Int32)), (.int v1), (.ref b127)])) _
    refine XS.iadd X252.here hx rfl (hb hby at_521) rfl ?_
    show Steps p.tables e below (T252.setTop (mkF m 522 #[.val (.int p1), .val (.int p2), .val (.int p3), .val (.int p4), .val (.int p5), .val (.int v1), .val (.ref b2), .val (.ref b24), .val (.ref b36), .val (.ref b51), .val (.int r119), .val (.int r121), .val (.int r124), .val (.int r126), .val (.ref b127), .unset] [(.int (v1 + (1 : Int32))), (.ref b127)])) _
    refine XS.iload X252.here hx rfl (hb hby at_522) rfl ?_
    show Steps p.tables e below (T252.setTop (mkF m 524 #[.val (.int p1), .val (.int p2), .val (.int p3), .val (.int p4), .val (.int p5), .val (.int v1), .val (.ref b2), .val (.ref b24), .val (.ref b36), .val (.ref b51), .val (.int r119), .val (.int r121), .val (.int r124), .val (.int r126), .val (.ref b127), .unset] [(.int r121), (.int (v1 + (1 : Int32))), (.ref b127)])) _
    refine XS.i2b X252.here hx rfl (hb hby at_524) rfl ?_
    show Steps p.tables e below (T252.setTop (mkF m 525 #[.val (.int p1), .val (.int p2), .val (.int p3), .val (.int p4), .val (.int p5), .val (.int v1), .val (.ref b2), .val (.ref b24), .val (.ref b36), .val (.ref b51), .val (.int r119), .val (.int r121), .val (.int r124), .val (.int r126), .val (.ref b127), .unset] [(.int (r121.toInt8.toInt32)), (.int (v1 + (1 : Int32))), (.ref b127)])) _
    refine st255 _ ?_
    show Steps p.tables e below (T255.setTop (mkF m 526 #[.val (.int p1), .val (.int p2), .val (.int p3), .val (.int p4), .val (.int p5), .val (.int v1), .val (.ref b2), .val (.ref b24), .val (.ref b36), .val (.ref b51), .val (.int r119), .val (.int r121), .val (.int r124), .val (.int r126), .val (.ref b127), .unset] [])) _
    refine XS.aload X255.here hx rfl (hb hby at_526) rfl rfl ?_
    show Steps p.tables e below (T255.setTop (mkF m 528 #[.val (.int p1), .val (.int p2), .val (.int p3), .val (.int p4), .val (.int p5), .val (.int v1), .val (.ref b2), .val (.ref b24), .val (.ref b36), .val (.ref b51), .val (.int r119), .val (.int r121), .val (.int r124), .val (.int r126), .val (.ref b127), .unset] [(.ref b127)])) _
    refine XS.iload X255.here hx rfl (hb hby at_528) rfl ?_
    show Steps p.tables e below (T255.setTop (mkF m 530 #[.val (.int p1), .val (.int p2), .val (.int p3), .val (.int p4), .val (.int p5), .val (.int v1), .val (.ref b2), .val (.ref b24), .val (.ref b36), .val (.ref b51), .val (.int r119), .val (.int r121), .val (.int r124), .val (.int r126), .val (.ref b127), .unset] [(.int v1), (.ref b127)])) _
    refine XS.iconst X255.here hx rfl (hb hby at_530) ?_
    show Steps p.tables e below (T255.setTop (mkF m 531 #[.val (.int p1), .val (.int p2), .val (.int p3), .val (.int p4), .val (.int p5), .val (.int v1), .val (.ref b2), .val (.ref b24), .val (.ref b36), .val (.ref b51), .val (.int r119), .val (.int r121), .val (.int r124), .val (.int r126), .val (.ref b127), .unset] [(.int (2 : Int32)), (.int v1), (.ref b127)])) _
    refine XS.iadd X255.here hx rfl (hb hby at_531) rfl ?_
    show Steps p.tables e below (T255.setTop (mkF m 532 #[.val (.int p1), .val (.int p2), .val (.int p3), .val (.int p4), .val (.int p5), .val (.int v1), .val (.ref b2), .val (.ref b24), .val (.ref b36), .val (.ref b51), .val (.int r119), .val (.int r121), .val (.int r124), .val (.int r126), .val (.ref b127), .unset] [(.int (v1 + (2 : Int32))), (.ref b127)])) _
    refine st256 _ ?_
    show Steps p.tables e below (T256.setTop (mkF m 535 #[.val (.int p1), .val (.int p2), .val (.int p3), .val (.int p4), .val (.int p5), .val (.int v1), .val (.ref b2), .val (.ref b24), .val (.ref b36), .val (.ref b51), .val (.int r119), .val (.int r121), .val (.int r124), .val (.int r126), .val (.ref b127), .unset] [(.int r256)])) _
    refine XS.istore X256.here hx rfl (hb hby at_535) rfl (l' := #[.val (.int p1), .val (.int p2), .val (.int p3), .val (.int p4), .val (.int p5), .val (.int v1), .val (.ref b2), .val (.ref b24), .val (.ref b36), .val (.ref b51), .val (.int r119), .val (.int r121), .val (.int r124), .val (.int r126), .val (.ref b127), .val (.int r256)]) rfl ?_
    show Steps p.tables e below (T256.setTop (mkF m 537 #[.val (.int p1), .val (.int p2), .val (.int p3), .val (.int p4), .val (.int p5), .val (.int v1), .val (.ref b2), .val (.ref b24), .val (.ref b36), .val (.ref b51), .val (.int r119), .val (.int r121), .val (.int r124), .val (.int r126), .val (.ref b127), .val (.int r256)] [])) _
    refine XS.iload X256.here hx rfl (hb hby at_537) rfl ?_
    show Steps p.tables e below (T256.setTop (mkF m 539 #[.val (.int p1), .val (.int p2), .val (.int p3), .val (.int p4), .val (.int p5), .val (.int v1), .val (.ref b2), .val (.ref b24), .val (.ref b36), .val (.ref b51), .val (.int r119), .val (.int r121), .val (.int r124), .val (.int r126), .val (.ref b127), .val (.int r256)] [(.int r119)])) _
    refine XS.sipush X256.here hx rfl (hb hby at_539) ?_
    show Steps p.tables e below (T256.setTop (mkF m 542 #[.val (.int p1), .val (.int p2), .val (.int p3), .val (.int p4), .val (.int p5), .val (.int v1), .val (.ref b2), .val (.ref b24), .val (.ref b36), .val (.ref b51), .val (.int r119), .val (.int r121), .val (.int r124), .val (.int r126), .val (.ref b127), .val (.int r256)] [(.int (12739 : Int32)), (.int r119)])) _
    refine XS.icmpNo X256.here hx rfl (hb hby at_542) rfl (teq hc257_542).2 ?_
    exact ktx
  have hc259_547 : ¬ (r121 < (0 : Int32)) := by rw [hv_r121]; exact (own_msk _).1
  have hc260_554 : ¬ ((65535 : Int32) < r121) := by rw [hv_r121]; exact (own_msk _).2
  have hc261_564 : r126 = (r121 ^^^ r124) := by
        rw [hv_r126, hv_r121, hv_r124]
        refine own_lin _ _ _ ln (fun j hj => ?_)
        have hj' := own_j7 hj hl7
        rcases hj' with rfl | rfl | rfl | rfl | rfl | rfl | rfl
        · show own_x8 v27 v42 v64
          rw [hv_v64]; exact own_x8_b _ _
        · show own_x8 v28 v43 v72
          rw [hv_v72]; exact own_x8_b _ _
        · show own_x8 v29 v44 v79
          rw [hv_v79]; exact own_x8_b _ _
        · show own_x8 v30 v45 v87
          rw [hv_v87]; exact own_x8_b _ _
        · show own_x8 v32 v47 v95
          rw [hv_v95]; exact own_x8_b _ _
        · show own_x8 v33 v48 v102
          rw [hv_v102]; exact own_x8_b _ _
        · show own_x8 v34 v49 v110
          rw [hv_v110]; exact own_x8_b _ _
  have hc262_569 : r256 = (0 : Int32) := by
        rw [hv_r256]
        refine own_fin [v27, v28, v29, v30, v32, v33, v34, v35] [v145, v159, v173, v187, v201, v215, v229, v243, v246, v250] ln hl7 rfl (fun j hj => ?_) _ _ (by rw [hv_r121]) (by rw [hv_r121])
        have hj' := own_j7 hj hl7
        rcases hj' with rfl | rfl | rfl | rfl | rfl | rfl | rfl
        · exact own_zj v27 v42 v136 v145 0 ln hj hl7 (by rw [← hln]; exact hv_v136) hv_v145
        · exact own_zj v28 v43 v150 v159 1 ln hj hl7 (by rw [← hln]; exact hv_v150) hv_v159
        · exact own_zj v29 v44 v164 v173 2 ln hj hl7 (by rw [← hln]; exact hv_v164) hv_v173
        · exact own_zj v30 v45 v178 v187 3 ln hj hl7 (by rw [← hln]; exact hv_v178) hv_v187
        · exact own_zj v32 v47 v192 v201 4 ln hj hl7 (by rw [← hln]; exact hv_v192) hv_v201
        · exact own_zj v33 v48 v206 v215 5 ln hj hl7 (by rw [← hln]; exact hv_v206) hv_v215
        · exact own_zj v34 v49 v220 v229 6 ln hj hl7 (by rw [← hln]; exact hv_v220) hv_v229
  have go263 : own_go p e below (s₁.setTop (entryFrame m #[(.int p1), (.int p2), (.int p3), (.int p4), (.int p5)] maxLocals)) (T256.setTop (mkF m 577 #[.val (.int p1), .val (.int p2), .val (.int p3), .val (.int p4), .val (.int p5), .val (.int v1), .val (.ref b2), .val (.ref b24), .val (.ref b36), .val (.ref b51), .val (.int r119), .val (.int r121), .val (.int r124), .val (.int r126), .val (.ref b127), .val (.int r256)] [(.int (1 : Int32))])) := by
    intro ttx ktx
    refine go258 ttx ?_
    show Steps p.tables e below (T256.setTop (mkF m 545 #[.val (.int p1), .val (.int p2), .val (.int p3), .val (.int p4), .val (.int p5), .val (.int v1), .val (.ref b2), .val (.ref b24), .val (.ref b36), .val (.ref b51), .val (.int r119), .val (.int r121), .val (.int r124), .val (.int r126), .val (.ref b127), .val (.int r256)] [])) _
    refine XS.iload X256.here hx rfl (hb hby at_545) rfl ?_
    show Steps p.tables e below (T256.setTop (mkF m 547 #[.val (.int p1), .val (.int p2), .val (.int p3), .val (.int p4), .val (.int p5), .val (.int v1), .val (.ref b2), .val (.ref b24), .val (.ref b36), .val (.ref b51), .val (.int r119), .val (.int r121), .val (.int r124), .val (.int r126), .val (.ref b127), .val (.int r256)] [(.int r121)])) _
    refine XS.ifNo X256.here hx rfl (hb hby at_547) rfl ((if0 _ _).trans (flt hc259_547).1) ?_
    show Steps p.tables e below (T256.setTop (mkF m 550 #[.val (.int p1), .val (.int p2), .val (.int p3), .val (.int p4), .val (.int p5), .val (.int v1), .val (.ref b2), .val (.ref b24), .val (.ref b36), .val (.ref b51), .val (.int r119), .val (.int r121), .val (.int r124), .val (.int r126), .val (.ref b127), .val (.int r256)] [])) _
    refine XS.iload X256.here hx rfl (hb hby at_550) rfl ?_
    show Steps p.tables e below (T256.setTop (mkF m 552 #[.val (.int p1), .val (.int p2), .val (.int p3), .val (.int p4), .val (.int p5), .val (.int v1), .val (.ref b2), .val (.ref b24), .val (.ref b36), .val (.ref b51), .val (.int r119), .val (.int r121), .val (.int r124), .val (.int r126), .val (.ref b127), .val (.int r256)] [(.int r121)])) _
    refine X256.ldcInt hx hown (mvT hZ (hw _ (List.mem_of_getElem? (i := 14) rfl))) (g := (mkF m 552 #[.val (.int p1), .val (.int p2), .val (.int p3), .val (.int p4), .val (.int p5), .val (.int v1), .val (.ref b2), .val (.ref b24), .val (.ref b36), .val (.ref b51), .val (.int r119), .val (.int r121), .val (.int r124), .val (.int r126), .val (.ref b127), .val (.int r256)] [(.int r121)])) rfl (hb hby at_552) _ ?_
    show Steps p.tables e below (T256.setTop (mkF m 554 #[.val (.int p1), .val (.int p2), .val (.int p3), .val (.int p4), .val (.int p5), .val (.int v1), .val (.ref b2), .val (.ref b24), .val (.ref b36), .val (.ref b51), .val (.int r119), .val (.int r121), .val (.int r124), .val (.int r126), .val (.ref b127), .val (.int r256)] [(.int (65535 : Int32)), (.int r121)])) _
    refine XS.icmpNo X256.here hx rfl (hb hby at_554) rfl (flt hc260_554).2.2.1 ?_
    show Steps p.tables e below (T256.setTop (mkF m 557 #[.val (.int p1), .val (.int p2), .val (.int p3), .val (.int p4), .val (.int p5), .val (.int v1), .val (.ref b2), .val (.ref b24), .val (.ref b36), .val (.ref b51), .val (.int r119), .val (.int r121), .val (.int r124), .val (.int r126), .val (.ref b127), .val (.int r256)] [])) _
    refine XS.iload X256.here hx rfl (hb hby at_557) rfl ?_
    show Steps p.tables e below (T256.setTop (mkF m 559 #[.val (.int p1), .val (.int p2), .val (.int p3), .val (.int p4), .val (.int p5), .val (.int v1), .val (.ref b2), .val (.ref b24), .val (.ref b36), .val (.ref b51), .val (.int r119), .val (.int r121), .val (.int r124), .val (.int r126), .val (.ref b127), .val (.int r256)] [(.int r126)])) _
    refine XS.iload X256.here hx rfl (hb hby at_559) rfl ?_
    show Steps p.tables e below (T256.setTop (mkF m 561 #[.val (.int p1), .val (.int p2), .val (.int p3), .val (.int p4), .val (.int p5), .val (.int v1), .val (.ref b2), .val (.ref b24), .val (.ref b36), .val (.ref b51), .val (.int r119), .val (.int r121), .val (.int r124), .val (.int r126), .val (.ref b127), .val (.int r256)] [(.int r121), (.int r126)])) _
    refine XS.iload X256.here hx rfl (hb hby at_561) rfl ?_
    show Steps p.tables e below (T256.setTop (mkF m 563 #[.val (.int p1), .val (.int p2), .val (.int p3), .val (.int p4), .val (.int p5), .val (.int v1), .val (.ref b2), .val (.ref b24), .val (.ref b36), .val (.ref b51), .val (.int r119), .val (.int r121), .val (.int r124), .val (.int r126), .val (.ref b127), .val (.int r256)] [(.int r124), (.int r121), (.int r126)])) _
    refine XS.ixor X256.here hx rfl (hb hby at_563) rfl ?_
    show Steps p.tables e below (T256.setTop (mkF m 564 #[.val (.int p1), .val (.int p2), .val (.int p3), .val (.int p4), .val (.int p5), .val (.int v1), .val (.ref b2), .val (.ref b24), .val (.ref b36), .val (.ref b51), .val (.int r119), .val (.int r121), .val (.int r124), .val (.int r126), .val (.ref b127), .val (.int r256)] [(.int (r121 ^^^ r124)), (.int r126)])) _
    refine XS.icmpNo X256.here hx rfl (hb hby at_564) rfl (teq hc261_564).2 ?_
    show Steps p.tables e below (T256.setTop (mkF m 567 #[.val (.int p1), .val (.int p2), .val (.int p3), .val (.int p4), .val (.int p5), .val (.int v1), .val (.ref b2), .val (.ref b24), .val (.ref b36), .val (.ref b51), .val (.int r119), .val (.int r121), .val (.int r124), .val (.int r126), .val (.ref b127), .val (.int r256)] [])) _
    refine XS.iload X256.here hx rfl (hb hby at_567) rfl ?_
    show Steps p.tables e below (T256.setTop (mkF m 569 #[.val (.int p1), .val (.int p2), .val (.int p3), .val (.int p4), .val (.int p5), .val (.int v1), .val (.ref b2), .val (.ref b24), .val (.ref b36), .val (.ref b51), .val (.int r119), .val (.int r121), .val (.int r124), .val (.int r126), .val (.ref b127), .val (.int r256)] [(.int r256)])) _
    refine XS.ifNo X256.here hx rfl (hb hby at_569) rfl ((if0 _ _).trans (teq hc262_569).2) ?_
    show Steps p.tables e below (T256.setTop (mkF m 572 #[.val (.int p1), .val (.int p2), .val (.int p3), .val (.int p4), .val (.int p5), .val (.int v1), .val (.ref b2), .val (.ref b24), .val (.ref b36), .val (.ref b51), .val (.int r119), .val (.int r121), .val (.int r124), .val (.int r126), .val (.ref b127), .val (.int r256)] [])) _
    refine XS.iconst X256.here hx rfl (hb hby at_572) ?_
    show Steps p.tables e below (T256.setTop (mkF m 573 #[.val (.int p1), .val (.int p2), .val (.int p3), .val (.int p4), .val (.int p5), .val (.int v1), .val (.ref b2), .val (.ref b24), .val (.ref b36), .val (.ref b51), .val (.int r119), .val (.int r121), .val (.int r124), .val (.int r126), .val (.ref b127), .val (.int r256)] [(.int (1 : Int32))])) _
    refine XS.goto X256.here hx rfl (pc0 := 573) (pc' := 577) rfl (hb hby at_573) (by decide) (by decide) ?_
    exact ktx
  obtain ⟨fs, hr, hrun, hended, hW, hsame⟩ := X256.leave (v := some (.int (1 : Int32))) (fun h => by rw [Bd.returns] at h; cases h)
  refine ⟨_, _, go263 _ ?_, hrun, hended, _, _, rfl, ?_, ⟨_, rfl⟩, hW, hsame.mono (by decide) (by decide)⟩
  · exact retN X256 hx (t := .boolean) Bd.returns (by simp) (hb hby at_577) hr
  · show Q0 Z p1 p2 p3 p4 p5 h0 n0 _ T256.heap _
    rw [e256]
    exact ⟨rfl, N256⟩
set_option maxRecDepth 65536 in
set_option maxHeartbeats 40000000 in
theorem comes_1 {Post : Tables → Env → Array Value → State → Outcome → State → Prop} (hpost : ∀ tb e args s v u, (limb_1_1.after args s (.returned v) u = true ∧ limb_1_2.after args s (.returned v) u = true ∧ True) → FrameEnd s (.returned v) u (Jvm.fieldLocs frame_1_writes args s ++ Jvm.arrayLocs frame_1_arrays args s ++ Jvm.staticLocs frame_1_statics s) 24 192 → Post tb e args s (.returned v) u) :
    ArmFor flags0 classFile x code maxLocals ret World_1 tables_1 room_1 Calls_1 rest_1 Pre_1 Post := by
  intro l hfl _ _ p e ha hc hk s m args below hf hA hF happ hP
  obtain ⟨hcalls, hrest, hpre⟩ := hP
  obtain ⟨-, -, -, hnamed, -, -, -, hat⟩ := (Spec.applies_iff hf).mp happ
  obtain ⟨hg, hn⟩ := and_e (Cond.before_iff.mp (show (Jvm.Cond.and given_1 narrow_1).before args s = true from hpre))
  obtain ⟨ga0, gb0⟩ := and_e hg
  obtain ⟨ga1, gb1⟩ := and_e gb0
  obtain ⟨ga2, gb2⟩ := and_e gb1
  obtain ⟨ga3, gb3⟩ := and_e gb2
  obtain ⟨ga4, gb4⟩ := and_e gb3
  obtain ⟨w0, w1, w2, w3, w4, rfl⟩ : ∃ w0 w1 w2 w3 w4 : Value, args = #[w0, w1, w2, w3, w4] := by
    have hs : args.size = 5 := by simpa [Cond.value, given_1] using ga0
    obtain ⟨L⟩ := args
    match L, hs with
    | [w0, w1, w2, w3, w4], _ => exact ⟨w0, w1, w2, w3, w4, rfl⟩
  have hw := fun d (hd : d ∈ tables_1) => atoms_spec (ws := Jvm.Cond.code x code maxLocals ret :: tables_1) hat d (List.mem_cons_of_mem _ hd)
  have hfit : Fit s := fun {y c} hc i hi => by
    obtain ⟨ha, rfl⟩ := Array.getElem?_eq_some_iff.mp hc
    have q := List.all_eq_true.mp ((Array.all_eq_true_iff_forall_mem.mp hF) _ (Array.getElem_mem ha)) i (List.mem_range.mpr hi)
    simpa [Array.getElem?_eq_getElem hi] using q
  obtain ⟨i0, ei0⟩ := is_v ga1
  obtain rfl : w0 = (.int i0) := Option.some.inj ei0
  obtain ⟨i1, ei1⟩ := is_v ga2
  obtain rfl : w1 = (.int i1) := Option.some.inj ei1
  obtain ⟨i2, ei2⟩ := is_v ga3
  obtain rfl : w2 = (.int i2) := Option.some.inj ei2
  obtain ⟨i3, ei3⟩ := is_v ga4
  obtain rfl : w3 = (.int i3) := Option.some.inj ei3
  obtain ⟨i4, ei4⟩ := is_v gb4
  obtain rfl : w4 = (.int i4) := Option.some.inj ei4
  obtain ⟨n, o, h1, h2, h3, _, L, rfl, ⟨rfl, N⟩, hq⟩ := rm0 l s _ hw tables_1 i0 i1 i2 i3 i4  s.heap s.heap.size (Nat.le_refl _)  p e ha hc hk s m _ below hf ((Spec.applies_iff_loose hf).mp happ).1 ⟨rfl, State.Warmed39.refl s, rfl⟩ trivial
  refine ⟨n, _, h1, h2, h3, hpost _ _ _ _ _ _ ⟨Cond.after_iff.mpr rfl, Cond.after_iff.mpr (eq_i res_at (Term.int_eval (1)) rfl), trivial⟩ ⟨hq.1, hq.2.1, (hq.2.2.sift fun y hy => Or.inr (N y hy)).mono (by decide) (by decide)⟩⟩
theorem main_1_1 : Claimed_1_1 := comes_1 fun _ _ _ _ _ _ h hF => ⟨h.1, hF⟩
theorem main_1_2 : Claimed_1_2 := comes_1 fun _ _ _ _ _ _ h hF => ⟨h.2.1, hF⟩
end Jvm.Pilot.@@N@@
namespace Jvm.Pilot.@@N@@
open Jvm Jvm.ClassFile Sem Op Lib Jvm.Free Jvm.Stand Jvm.Pilot.@@N@@.Jvm.D
/-! MADE BY PROGRAM (witnessworld.py) out of the Statement's table words and the real class files: 9 classes; the members and pool entries that the words name. The judged class is class 1, her method 3. -/
namespace start1
open Jvm.ClassFile
def u (s : String) : CpInfo := .utf8 (stringToUtf16 s)
/-- a pool by its gaps: so many unusable entries, then the entry; so many at the end -/
def gap : Nat → List CpInfo → List CpInfo
  | 0, r => r
  | n + 1, r => .unusable :: gap n r
def poolList (es : List (Nat × CpInfo)) (last : Nat) : List CpInfo := es.foldr (fun e r => gap e.1 (e.2 :: r)) (gap last [])
def pool (es : List (Nat × CpInfo)) (last : Nat) : Array CpInfo := ⟨poolList es last⟩
def fileOf (pool : Array CpInfo) (this : Nat) (attrs : Array Attribute := #[]) (ms : Array MethodInfo := #[]) (fl : Nat := 33) (sup : Nat := 0) (ifs : Array Nat := #[]) (fds : Array FieldInfo := #[]) : ClassFile where
  minorVersion := 0
  majorVersion := 65
  constantPool := pool
  accessFlags := fl
  thisClass := this
  superClass := sup
  interfaces := ifs
  fields := fds
  methods := ms
  attributes := attrs
def plain (name : String) (sup : Option ClassId) : Class where
  name := name
  kind := .ordinary
  loader := none
  accessFlags := 33
  super := sup
  interfaces := #[]
  cf := none
  fields := #[]
  methods := #[]
  instanceTypes := #[]
  staticTypes := #[]
  resolved := #[]
  callSites := []
  init := .initialized
  statics := none
  mirror := none

def pool0 : Array CpInfo := pool [(5, u "<init>"), (0, u "()V"), (1, .class_ 10), (1, u "java/lang/Object")] 113

def k0m0 : Method := { name := "<init>", desc := "()V", sig := { parameters := [], returnType := none }, accessFlags := 1, code := none }
/-- java/lang/Object -/
def k0 : Class := { plain "java/lang/Object" none with
  accessFlags := 33
  interfaces := #[]
  cf := some (fileOf pool0 8 #[] #[{ accessFlags := 1, nameIndex := 5, descriptorIndex := 6, attributes := #[] }] 33 0 #[] #[])
  fields := #[]
  methods := #[k0m0]
  instanceTypes := #[]
  staticTypes := #[]
  resolved := Array.replicate 124 none
  statics := none }

def pool1 : Array CpInfo := pool [(2, .class_ 4), (1, u "java/lang/Object"), (0, u "<init>"), (0, u "()V"), (0, .methodref 8 9), (0, .class_ 10), (0, .nameAndType 11 12), (0, u "io/subjectwire/auth/Crc16OfPinLaw"), (0, u "put"), (0, u "([BII)V"), (0, .methodref 14 15), (0, .class_ 16), (0, .nameAndType 17 18), (0, u "io/subjectwire/auth/Crc16"), (0, u "of"), (0, u "([BI)I"), (0, .methodref 8 20), (0, .nameAndType 21 22), (0, u "pick"), (0, u "(ZBB)B"), (0, .integer 65535), (3, u "law"), (0, u "(IIIII)Z")] 4

def k1m0 : Method := { name := "<init>", desc := "()V", sig := { parameters := [], returnType := none }, accessFlags := 2, code := none }
def k1c1 : Code := { maxStack := 4, maxLocals := 3, code := method_2_code, exceptionTable := #[], attributes := #[] }
def k1m1 : Method := { name := "put", desc := "([BII)V", sig := { parameters := [(.array .byte), .int, .int], returnType := none }, accessFlags := 10, code := some k1c1 }
def k1c2 : Code := { maxStack := 1, maxLocals := 3, code := method_3_code, exceptionTable := #[], attributes := #[] }
def k1m2 : Method := { name := "pick", desc := "(ZBB)B", sig := { parameters := [.boolean, .byte, .byte], returnType := some .byte }, accessFlags := 10, code := some k1c2 }
def k1c3 : Code := { maxStack := 6, maxLocals := 16, code := code, exceptionTable := #[], attributes := #[] }
def k1m3 : Method := { name := "law", desc := "(IIIII)Z", sig := { parameters := [.int, .int, .int, .int, .int], returnType := some .boolean }, accessFlags := 9, code := some k1c3 }
/-- io/subjectwire/auth/Crc16OfPinLaw -/
def k1 : Class := { plain "io/subjectwire/auth/Crc16OfPinLaw" (some 0) with
  accessFlags := 49
  interfaces := #[]
  cf := some (fileOf pool1 8 #[] #[{ accessFlags := 2, nameIndex := 5, descriptorIndex := 6, attributes := #[] }, { accessFlags := 10, nameIndex := 11, descriptorIndex := 12, attributes := #[] }, { accessFlags := 10, nameIndex := 21, descriptorIndex := 22, attributes := #[] }, { accessFlags := 9, nameIndex := 27, descriptorIndex := 28, attributes := #[] }] 49 2 #[] #[])
  fields := #[]
  methods := #[k1m0, k1m1, k1m2, k1m3]
  instanceTypes := #[]
  staticTypes := #[]
  resolved := Array.replicate 33 none
  statics := none }

def pool2 : Array CpInfo := pool [(2, .class_ 4), (1, u "java/lang/Object"), (0, u "<init>"), (0, u "()V"), (0, .integer 32768), (0, .class_ 9), (0, u "io/subjectwire/auth/Crc16"), (0, .integer 65535), (0, u "POLYNOMIAL"), (0, u "I"), (4, u "of"), (0, u "([BI)I")] 3

def k2m0 : Method := { name := "<init>", desc := "()V", sig := { parameters := [], returnType := none }, accessFlags := 2, code := none }
def k2c1 : Code := { maxStack := 3, maxLocals := 5, code := prog_31_method_2_code, exceptionTable := #[], attributes := #[] }
def k2m1 : Method := { name := "of", desc := "([BI)I", sig := { parameters := [(.array .byte), .int], returnType := some .int }, accessFlags := 8, code := some k2c1 }
/-- io/subjectwire/auth/Crc16 -/
def k2 : Class := { plain "io/subjectwire/auth/Crc16" (some 0) with
  accessFlags := 48
  interfaces := #[]
  cf := some (fileOf pool2 8 #[] #[{ accessFlags := 2, nameIndex := 5, descriptorIndex := 6, attributes := #[] }, { accessFlags := 8, nameIndex := 17, descriptorIndex := 18, attributes := #[] }] 48 2 #[] #[{ accessFlags := 26, nameIndex := 11, descriptorIndex := 12, attributes := #[] }])
  fields := #[{ name := "POLYNOMIAL", type := .int, accessFlags := 26, slot := 0, constantValue := 0 }]
  methods := #[k2m0, k2m1]
  instanceTypes := #[]
  staticTypes := #[.int]
  resolved := Array.replicate 22 none
  statics := none }

def pool3 : Array CpInfo := pool [(1, u "java/lang/Cloneable"), (0, .class_ 1), (0, u "java/lang/Object"), (0, .class_ 3)] 3

/-- java/lang/Cloneable -/
def k3 : Class := { plain "java/lang/Cloneable" (some 0) with
  accessFlags := 1537
  interfaces := #[]
  cf := some (fileOf pool3 2 #[] #[] 1537 4 #[] #[])
  fields := #[]
  methods := #[]
  instanceTypes := #[]
  staticTypes := #[]
  resolved := Array.replicate 8 none
  statics := none }

def pool4 : Array CpInfo := pool [(1, u "java/io/Serializable"), (0, .class_ 1), (0, u "java/lang/Object"), (0, .class_ 3)] 3

/-- java/io/Serializable -/
def k4 : Class := { plain "java/io/Serializable" (some 0) with
  accessFlags := 1537
  interfaces := #[]
  cf := some (fileOf pool4 2 #[] #[] 1537 4 #[] #[])
  fields := #[]
  methods := #[]
  instanceTypes := #[]
  staticTypes := #[]
  resolved := Array.replicate 8 none
  statics := none }

/-- the primitive byte -/
def k5 : Class := { plain "byte" none with kind := .primitive 'B', accessFlags := 0x411 }
/-- [B -/
def k6 : Class := { plain "[B" (some 0) with kind := .array 5 .byte, interfaces := #[3, 4], accessFlags := 1041 }

/-- the primitive int -/
def k7 : Class := { plain "int" none with kind := .primitive 'I', accessFlags := 0x411 }
/-- [I -/
def k8 : Class := { plain "[I" (some 0) with kind := .array 7 .int, interfaces := #[3, 4], accessFlags := 1041 }

def heap : Heap := #[]
def classes : Array Class := #[k0, k1, k2, k3, k4, k5, k6, k7, k8]
def interned : List (Array UInt16 × Addr) := []
def slotsUsed : Nat := 0
def theMethod : MethodId := ⟨1, 3⟩
def args0 : Array Value := #[.int 3, .int 5, .int 7, .int 9, .int 2]
def aboutOver (below : List Frame) : State where
  vm := { classes := classes, interned := interned.toArray }
  heap := heap
  slotsUsed := slotsUsed
  threads := #[{ frames := .invoking theMethod args0 :: below }]
def below0 : List Frame := [.native { method := ⟨0, 0⟩, args := #[] }]
def about1 : State := aboutOver below0
def p0 : Program := .bare "" "" ""
def e0 : Env := launch0.env 0 0 0
theorem w_frames : about1.frames = Frame.invoking theMethod args0 :: below0 := rfl
set_option maxRecDepth 65536 in
theorem w_args : argsFit about1.vm theMethod args0 = true := by decide +kernel
set_option maxRecDepth 65536 in
theorem w_heap : heapFits about1 = true := by decide +kernel
set_option maxRecDepth 65536 in
theorem w_runnable : about1.curStatus? = some .runnable := by decide +kernel
set_option maxRecDepth 65536 in
theorem w_alone : about1.alone = true := by decide +kernel
set_option maxRecDepth 65536 in
theorem w_named : about1.methodNamed? x = some theMethod := by decide +kernel
set_option maxRecDepth 65536 in
theorem w_hears : about1.hears theMethod below0 = true := by decide +kernel
set_option maxRecDepth 65536 in
theorem w_ripe : about1.ripe theMethod args0 below0 = true := by decide +kernel
theorem w_running : about1.status = .running := rfl
set_option maxRecDepth 65536 in
theorem w_room : about1.hasRoom e0.platform room_1 = true :=
  launch0.hasRoom_least _ room_1 (by decide +kernel) (by decide +kernel) (by decide +kernel) (by decide +kernel) (by decide +kernel) (by decide +kernel)
theorem allAtoms_all (ts : List Jvm.Cond) (a : Array Jvm.Value) (st : Jvm.State) : (allAtoms ts).before a st = ts.all (fun c => c.before a st) := by
  induction ts with
  | nil => rfl
  | cons c t ih =>
    show (Jvm.Cond.and c (allAtoms t)).before a st = _
    rw [Jvm.Cond.before_and, ih, List.all_cons]
def words1 : List Jvm.Cond := Jvm.Cond.code x code maxLocals ret :: tables_1
/-- a 'code' word, met by the world's own term for the bytes: nothing is compared byte by byte -/
theorem code_word {y : MethodName} {bytes : ByteArray} {mx : Nat} {rt : Option FieldType} {a : Array Value} {s : State} {m : MethodId} {meth : Method} {c : Code} (h1 : s.methodNamed? y = some m) (h2 : s.vm.method? m = some meth) (h3 : meth.code = some c) (h4 : c.code = bytes)
    (h5 : (c.maxLocals == mx && c.exceptionTable.isEmpty && decide (c.maxStack ≤ mostOperands) && decide (meth.sig.returnType = rt) && !meth.locks && decide (parseMethodDescriptor y.desc = some meth.sig)) = true) : (Jvm.Cond.code y bytes mx rt).before a s = true := by
  simp only [Bool.and_eq_true, beq_iff_eq, Bool.not_eq_true', decide_eq_true_eq] at h5
  obtain ⟨⟨⟨⟨⟨g1, g2⟩, g3⟩, g4⟩, g5⟩, g6⟩ := h5
  simp [Cond.before, Cond.holds, Cond.value, h1, h2, h3, h4, g1, g2, g3, g4, g5, g6]
def isCode : Jvm.Cond → Bool
  | .code _ _ _ _ => true
  | _ => false
theorem all_split {L : List Jvm.Cond} {P : Jvm.Cond → Bool} (h1 : L.all (fun c => isCode c || P c) = true) (h2 : ∀ c ∈ L.filter isCode, P c = true) : L.all P = true := by
  refine List.all_eq_true.mpr fun c hc => ?_
  have h := List.all_eq_true.mp h1 c hc
  rcases Bool.eq_false_or_eq_true (isCode c) with hi | hi
  · exact h2 c (List.mem_filter.mpr ⟨hc, hi⟩)
  · simpa [hi] using h
set_option maxRecDepth 65536 in
theorem w_c0 : (Jvm.Cond.code x code maxLocals ret).before args0 about1 = true := code_word (m := ⟨1, 3⟩) (meth := k1m3) (c := k1c3) (by decide +kernel) rfl rfl rfl (by decide +kernel)
set_option maxRecDepth 65536 in
theorem w_c1 : (Jvm.Cond.code ({ cls := "io/subjectwire/auth/Crc16OfPinLaw", name := "put", desc := "([BII)V" } : Jvm.MethodName) method_2_code (3 : Nat) (Option.none : Option Jvm.ClassFile.FieldType)).before args0 about1 = true := code_word (m := ⟨1, 1⟩) (meth := k1m1) (c := k1c1) (by decide +kernel) rfl rfl rfl (by decide +kernel)
set_option maxRecDepth 65536 in
theorem w_c2 : (Jvm.Cond.code ({ cls := "io/subjectwire/auth/Crc16", name := "of", desc := "([BI)I" } : Jvm.MethodName) prog_31_method_2_code (5 : Nat) (Option.some Jvm.ClassFile.FieldType.int)).before args0 about1 = true := code_word (m := ⟨2, 1⟩) (meth := k2m1) (c := k2c1) (by decide +kernel) rfl rfl rfl (by decide +kernel)
set_option maxRecDepth 65536 in
theorem w_c3 : (Jvm.Cond.code ({ cls := "io/subjectwire/auth/Crc16OfPinLaw", name := "pick", desc := "(ZBB)B" } : Jvm.MethodName) method_3_code (3 : Nat) (Option.some Jvm.ClassFile.FieldType.byte)).before args0 about1 = true := code_word (m := ⟨1, 2⟩) (meth := k1m2) (c := k1c2) (by decide +kernel) rfl rfl rfl (by decide +kernel)
def codes1 : List Jvm.Cond := [Jvm.Cond.code x code maxLocals ret, Jvm.Cond.code ({ cls := "io/subjectwire/auth/Crc16OfPinLaw", name := "put", desc := "([BII)V" } : Jvm.MethodName) method_2_code (3 : Nat) (Option.none : Option Jvm.ClassFile.FieldType), Jvm.Cond.code ({ cls := "io/subjectwire/auth/Crc16", name := "of", desc := "([BI)I" } : Jvm.MethodName) prog_31_method_2_code (5 : Nat) (Option.some Jvm.ClassFile.FieldType.int), Jvm.Cond.code ({ cls := "io/subjectwire/auth/Crc16OfPinLaw", name := "pick", desc := "(ZBB)B" } : Jvm.MethodName) method_3_code (3 : Nat) (Option.some Jvm.ClassFile.FieldType.byte)]
set_option maxRecDepth 65536 in
theorem codes_eq : words1.filter isCode = codes1 := rfl
theorem w_codes : ∀ c ∈ words1.filter isCode, c.before args0 about1 = true := by
  rw [codes_eq]
  intro c hc
  simp only [codes1, List.mem_cons, List.not_mem_nil, or_false] at hc
  rcases hc with rfl | rfl | rfl | rfl
  · exact w_c0
  · exact w_c1
  · exact w_c2
  · exact w_c3
set_option maxRecDepth 65536 in
theorem w_t1 : words1.all (fun c => isCode c || c.before args0 about1) = true := by decide +kernel
theorem w_tables : (allAtoms (Jvm.Cond.code x code maxLocals ret :: tables_1)).before args0 about1 = true := by
  rw [allAtoms_all]
  show words1.all (fun c => c.before args0 about1) = true
  refine all_split ?_ w_codes
  rw [w_t1]
set_option maxRecDepth 65536 in
theorem w_case : (Jvm.Cond.and given_1 narrow_1).before args0 about1 = true := by decide +kernel
theorem w_applies : (headSpec (Jvm.Cond.code x code maxLocals ret :: tables_1) room_1).applies x e0.platform about1 = true :=
  (Spec.applies_iff w_frames).mpr ⟨w_running, w_runnable, w_alone, w_named, w_hears, w_ripe, w_room, w_tables⟩
theorem atStart : AtStart classFile x code maxLocals ret World_1 tables_1 room_1 Calls_1 rest_1 Pre_1 launch0 p0 e0 about1 theMethod args0 below0 :=
  ⟨lists_1, trivial, launch0.admits_env _ _ _, launch0.least_env, fairChoices_fair.cas, fairChoices_fair.clock, w_frames, w_args, w_heap, w_applies, trivial, trivial, w_case⟩
end start1
theorem witness_1 : WitnessClaimed_1 := ⟨start1.p0, start1.e0, start1.about1, start1.theMethod, start1.args0, start1.below0, start1.atStart⟩
end Jvm.Pilot.@@N@@
