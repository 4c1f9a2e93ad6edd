import JvmDerived
import JvmDerived.Pilot.@@N@@Statement
import JvmDerived.Pilot.@@N@@Code
set_option linter.unusedVariables false
set_option linter.unusedSimpArgs false
namespace Jvm.RoadKit
open Sem ClassFile Op Lib Jvm.Stand Jvm.Free Jvm.LawKit
section New
variable {p : Program} {l : Launch} {e : Env} {R : Room} {s : State} {m : MethodId} {args : Array Value} {below : List Frame} {meth : Method} {c : Code} {T : State} {locs : List Loc} {cells slots : Nat}
theorem retI (X : Stand p l e R s m args below meth c T locs cells slots) (hx : p.tables.exec = Jvm.exec) {pc : Nat} {Ls : Array Slot} {z : Int32} {rest : List Value} (hret : meth.sig.returnType = some .int) (hd : decode c.code pc = .ok (.ireturn, 1)) {fs : List Frame}
    (hl : ∀ (f : JFrame) (acts : List Action), f.method = m → f.locked = none → f.entered = [] → (doReturn e (T.setTop f) acts (some (.int z))).1 = T.setFrames fs) : Steps p.tables e below (T.setTop (mkF m pc Ls (.int z :: rest))) (T.setFrames fs) := by
  have hm' : T.vm.method? m = some meth := X.method'
  have hn : narrow .int (.int z) = .int z := rfl
  show Steps p.tables e below (T.setTop { method := m, pc := pc, locals := Ls, stack := _ :: rest, locked := none }) _
  jvm_step X.here [X.here.top, hx, hd, hm', hret, hn]
  first | (intro acts; rw [hl _ acts rfl rfl rfl]) | rw [hl _ _ rfl rfl rfl]
  exact Steps.refl _
end New
end Jvm.RoadKit
/- laws to paste: Road.backV (cut by pick.py; bodies as the Statement names them) -/
namespace Jvm.Pilot.@@N@@
namespace StrChars
open Jvm Sem ClassFile Op Lib Jvm.Stand Jvm.Free.XT Jvm.Free.ALB Jvm.Free.JM Jvm.Free
open Jvm.Lib.Cold (StaticIs)
/-- a char array whose places are chars -/
def Ch (a : Addr) (A : Cell) (U : State) : Prop := Arr .char a A U ∧ Typed .char A
theorem Ch.mv {a : Addr} {A : Cell} {U U' : State} (h : Ch a A U) (hal : U.vm.Alike U'.vm) (hh : U'.heap = U.heap) : Ch a A U' := ⟨h.1.mv hal hh, h.2⟩
theorem Ch.keep {a : Addr} {A : Cell} {U U' : State} (h : Ch a A U) (hal : U.vm.Alike U'.vm) (hk : U'.heap[a]? = some A) : Ch a A U' := ⟨h.1.keep hal hk, h.2⟩
/-- what place i of a char[]'s cell holds -/
def cv (A : Cell) (i : Nat) : Int32 := match A.slots[i]? with | some (.int x) => x | _ => 0
theorem Ch.get {a : Addr} {A : Cell} {U : State} (h : Ch a A U) {i : Nat} (hi : i < A.slots.size) : A.slots[i]? = some (.int (cv A i)) := by
  have e := Array.getElem?_eq_getElem hi
  have f := h.2 i _ e
  unfold cv; rw [e]
  generalize A.slots[i] = v at f
  cases v <;> simp [fits] at f ⊢
/-- the byte that i2b leaves of a char -/
def lo8 (x : Int32) : Int32 := x.toInt8.toInt32
theorem fits_lo8 (y : Int32) : fits .byte (.int (lo8 y)) = true := by
  have h1 := y.toInt8.le_toInt
  have h2 := y.toInt8.toInt_lt
  simp only [lo8, fits, Bool.and_eq_true, decide_eq_true_eq, Int32.le_iff_toInt_le, Int8.toInt_toInt32, show (-128 : Int32).toInt = -128 from by decide, show (127 : Int32).toInt = 127 from by decide]
  omega
/-- A' is A but that each place j of lo .. hi - 1 holds f j -/
def Laid (A A' : Cell) (lo hi : Nat) (f : Nat → Value) : Prop := A'.cls = A.cls ∧ A'.vm = A.vm ∧ A'.slots.size = A.slots.size ∧ ∀ i, A'.slots[i]? = if lo ≤ i ∧ i < hi then some (f i) else A.slots[i]?
theorem Laid.zero (A : Cell) (lo : Nat) (f : Nat → Value) : Laid A A lo (lo + 0) f := ⟨rfl, rfl, rfl, fun i => by rw [if_neg (by omega)]⟩
theorem Laid.step {A Ak : Cell} {lo k : Nat} {f : Nat → Value} {v : Value} (h : Laid A Ak lo k f) (hlo : lo ≤ k) (hk : k < Ak.slots.size) (hv : v = f k) : Laid A (Ak.setSlot k v) lo (k + 1) f := by
  refine ⟨h.1, h.2.1, by simpa [Cell.setSlot] using h.2.2.1, fun i => ?_⟩
  by_cases e : k = i
  · subst e; rw [Cell.slots_setSlot_self v hk, if_pos (by omega), hv]
  · rw [Cell.slots_setSlot_ne v e, h.2.2.2 i]
    by_cases q : lo ≤ i ∧ i < k
    · rw [if_pos q, if_pos (by omega)]
    · rw [if_neg q, if_neg (by omega)]
def U16 : String := "java/lang/StringUTF16"
namespace Cmp5
def yN : MethodName := ⟨"java/lang/StringUTF16", "compress", "([CI[BII)I"⟩
abbrev yB : ByteArray := jdk_52_method_21_code
theorem d0 : decode yB 0 = .ok (.iconst 0, 1) := by decide +kernel
theorem d1 : decode yB 1 = .ok (.istore 5, 2) := by decide +kernel
theorem d3 : decode yB 3 = .ok (.iload 5, 2) := by decide +kernel
theorem d5 : decode yB 5 = .ok (.iload 4, 2) := by decide +kernel
theorem d7 : decode yB 7 = .ok (.if_icmp (.ge) 37, 3) := by decide +kernel
theorem d10 : decode yB 10 = .ok (.aload_n 0, 1) := by decide +kernel
theorem d11 : decode yB 11 = .ok (.iload_n 1, 1) := by decide +kernel
theorem d12 : decode yB 12 = .ok (.caload, 1) := by decide +kernel
theorem d13 : decode yB 13 = .ok (.istore 6, 2) := by decide +kernel
theorem d15 : decode yB 15 = .ok (.iload 6, 2) := by decide +kernel
theorem d17 : decode yB 17 = .ok (.sipush 255, 3) := by decide +kernel
theorem d20 : decode yB 20 = .ok (.if_icmp (.le) 6, 3) := by decide +kernel
theorem d26 : decode yB 26 = .ok (.aload_n 2, 1) := by decide +kernel
theorem d27 : decode yB 27 = .ok (.iload_n 3, 1) := by decide +kernel
theorem d28 : decode yB 28 = .ok (.iload 6, 2) := by decide +kernel
theorem d30 : decode yB 30 = .ok (.i2b, 1) := by decide +kernel
theorem d31 : decode yB 31 = .ok (.bastore, 1) := by decide +kernel
theorem d32 : decode yB 32 = .ok (.iinc 1 1, 3) := by decide +kernel
theorem d35 : decode yB 35 = .ok (.iinc 3 1, 3) := by decide +kernel
theorem d38 : decode yB 38 = .ok (.iinc 5 1, 3) := by decide +kernel
theorem d41 : decode yB 41 = .ok (.goto (-38), 3) := by decide +kernel
theorem d44 : decode yB 44 = .ok (.iload 4, 2) := by decide +kernel
theorem d46 : decode yB 46 = .ok (.ireturn, 1) := by decide +kernel
def site : List Cond := []
def tab : Cond := tabOf yN yB 7 (some .int) site
def P (b : Addr) (A : Cell) (d : Addr) (B : Cell) (o q len : Nat) (args : Array Value) (s : State) : Prop := args = #[.ref b, .int (Int32.ofNat o), .ref d, .int (Int32.ofNat q), .int (Int32.ofNat len)] ∧ Ch b A s ∧ Arr .byte d B s ∧ b ≠ d ∧ o + len ≤ A.slots.size ∧ q + len ≤ B.slots.size ∧ ∀ i, i < len → ¬ 255 < cv A (o + i)
def E (b : Addr) (A : Cell) (d : Addr) (B : Cell) (o q len : Nat) (r : Option Value) (s u : State) : Prop := r = some (.int (Int32.ofNat len)) ∧ ∃ B', Put d B' s u ∧ Laid B B' q (q + len) (fun j => Value.int (lo8 (cv A (o + (j - q)))))
/-- no char of the range above 255: len; the places written hold each char's low byte -/
theorem law (l : Launch) (b : Addr) (A : Cell) (d : Addr) (B : Cell) (o q len : Nat) : Law l yN 5 5 0 0 yB 7 (some .int) site (P b A d B o q len) (E b A d B o q len) (copyLocs d q len) 0 0 := by
  refine Law.of_walk (plainFor_of_name (by decide +kernel)) (by decide +kernel) (by decide +kernel) (by decide) (fun _ _ h => by rw [h.1]; rfl) (fun _ U U' hal hh h => ⟨h.1, h.2.1.mv hal hh, h.2.2.1.mv hal hh, h.2.2.2⟩) (fun r U U' V V' h1 hal h2 h => ⟨h.1, h.2.elim fun B' q => ⟨B', q.1.mv h1 h2, q.2⟩⟩) ?_
  intro p e s m args below meth c s₁ X0 hexec hbytes hml hret hlk hnm hown hh0 W hP
  obtain ⟨rfl, hA, hB, hne, l1, l2, hp⟩ := hP
  have c1 : Steps p.tables e below (s₁.setTop (entryFrame m #[.ref b, .int (Int32.ofNat o), .ref d, .int (Int32.ofNat q), .int (Int32.ofNat len)] 7)) (s₁.setTop (mkF m 0 #[.val (.ref b), .val (.int (Int32.ofNat o)), .val (.ref d), .val (.int (Int32.ofNat q)), .val (.int (Int32.ofNat len)), .unset, .unset] [])) := entry rfl
  have hA0 := hA.1.mv X0.warmed.alike hh0
  have hB0 := hB.mv X0.warmed.alike hh0
  have a31 := hA.1.2.2.2
  have c2 : Steps p.tables e below (s₁.setTop (entryFrame m #[.ref b, .int (Int32.ofNat o), .ref d, .int (Int32.ofNat q), .int (Int32.ofNat len)] 7)) (s₁.setTop (mkF m 3 #[.val (.ref b), .val (.int (Int32.ofNat o)), .val (.ref d), .val (.int (Int32.ofNat q)), .val (.int (Int32.ofNat len)), .val (.int 0), .unset] [])) := c1.trans (by
    refine iconstV X0.here hexec rfl 0 (hb hbytes d0) (by decide) ?_
    refine XS.istore X0.here hexec rfl (hb hbytes d1) rfl rfl ?_
    exact Steps.refl _)
  have loop : ∀ (r i : Nat), i + r = len → ∀ (z : Slot), (z = .unset ∨ ∃ w, z = .val w ∧ w.category = 1) → ∀ (Tl : State) (Bk : Cell), Stand p l e { frames := 0, locals := 0, cells := 0, slots := 0 } s m #[.ref b, .int (Int32.ofNat o), .ref d, .int (Int32.ofNat q), .int (Int32.ofNat len)] below meth c Tl ([] ++ copyLocs d q i) 0 0 → Put d Bk s₁ Tl → Laid B Bk q (q + i) (fun j => Value.int (lo8 (cv A (o + (j - q))))) →
      Steps p.tables e below (s₁.setTop (entryFrame m #[.ref b, .int (Int32.ofNat o), .ref d, .int (Int32.ofNat q), .int (Int32.ofNat len)] 7)) (Tl.setTop (mkF m 3 #[.val (.ref b), .val (.int (Int32.ofNat (o + i))), .val (.ref d), .val (.int (Int32.ofNat (q + i))), .val (.int (Int32.ofNat len)), .val (.int (Int32.ofNat i)), z] [])) → ∃ (T' : State) (B' : Cell) (z' : Slot), Stand p l e { frames := 0, locals := 0, cells := 0, slots := 0 } s m #[.ref b, .int (Int32.ofNat o), .ref d, .int (Int32.ofNat q), .int (Int32.ofNat len)] below meth c T' ([] ++ copyLocs d q len) 0 0 ∧ Put d B' s₁ T' ∧ Laid B B' q (q + len) (fun j => Value.int (lo8 (cv A (o + (j - q))))) ∧
      Steps p.tables e below (s₁.setTop (entryFrame m #[.ref b, .int (Int32.ofNat o), .ref d, .int (Int32.ofNat q), .int (Int32.ofNat len)] 7)) (T'.setTop (mkF m 3 #[.val (.ref b), .val (.int (Int32.ofNat (o + len))), .val (.ref d), .val (.int (Int32.ofNat (q + len))), .val (.int (Int32.ofNat len)), .val (.int (Int32.ofNat len)), z'] [])) := by
    intro r
    induction r with
    | zero =>
      intro i hi z hz Tl Bk Xl pl fl cl
      have hil : i = len := by omega
      rw [hil] at Xl fl cl
      exact ⟨Tl, Bk, z, Xl, pl, fl, cl⟩
    | succ r ih =>
      intro i hi z hz Tl Bk Xl pl fl cl
      have all := X0.warmed.alike.symm.trans Xl.warmed.alike
      have hAl := hA0.keep all (pl.other hne hA0.1)
      have hBk := hB0.like all pl.1 fl.1 fl.2.1 fl.2.2.1
      have hlt : q + i < Bk.slots.size := by rw [fl.2.2.1]; omega
      have c3 : Steps p.tables e below (s₁.setTop (entryFrame m #[.ref b, .int (Int32.ofNat o), .ref d, .int (Int32.ofNat q), .int (Int32.ofNat len)] 7)) (Tl.setTop (mkF m 12 #[.val (.ref b), .val (.int (Int32.ofNat (o + i))), .val (.ref d), .val (.int (Int32.ofNat (q + i))), .val (.int (Int32.ofNat len)), .val (.int (Int32.ofNat i)), z] [.int (Int32.ofNat (o + i)), .ref b])) := cl.trans (by
        refine XS.iload Xl.here hexec rfl (hb hbytes d3) rfl ?_
        refine XS.iload Xl.here hexec rfl (hb hbytes d5) rfl ?_
        refine XS.icmpNo Xl.here hexec rfl (hb hbytes d7) rfl (ii_ge_f (lt32 (by omega) (by omega))) ?_
        refine XS.aloadN Xl.here hexec rfl (hb hbytes d10) rfl rfl ?_
        refine XS.iloadN Xl.here hexec rfl (hb hbytes d11) rfl ?_
        exact Steps.refl _)
      have c4 : Steps p.tables e below (s₁.setTop (entryFrame m #[.ref b, .int (Int32.ofNat o), .ref d, .int (Int32.ofNat q), .int (Int32.ofNat len)] 7)) (Tl.setTop (mkF m 13 #[.val (.ref b), .val (.int (Int32.ofNat (o + i))), .val (.ref d), .val (.int (Int32.ofNat (q + i))), .val (.int (Int32.ofNat len)), .val (.int (Int32.ofNat i)), z] [.int (cv A (o + i))])) := c3.trans (by
        refine Xl.aget hexec hAl rfl (hA.get (i := o + i) (by omega)) rfl rfl (hb hbytes d12) ?_
        exact Steps.refl _)
      have c5 : Steps p.tables e below (s₁.setTop (entryFrame m #[.ref b, .int (Int32.ofNat o), .ref d, .int (Int32.ofNat q), .int (Int32.ofNat len)] 7)) (Tl.setTop (mkF m 15 #[.val (.ref b), .val (.int (Int32.ofNat (o + i))), .val (.ref d), .val (.int (Int32.ofNat (q + i))), .val (.int (Int32.ofNat len)), .val (.int (Int32.ofNat i)), .val (.int (cv A (o + i)))] [])) := c4.trans (by
        refine XS.istoreS Xl.here hexec rfl (hb hbytes d13) rfl rfl hz ?_
        exact Steps.refl _)
      have c6 : Steps p.tables e below (s₁.setTop (entryFrame m #[.ref b, .int (Int32.ofNat o), .ref d, .int (Int32.ofNat q), .int (Int32.ofNat len)] 7)) (Tl.setTop (mkF m 31 #[.val (.ref b), .val (.int (Int32.ofNat (o + i))), .val (.ref d), .val (.int (Int32.ofNat (q + i))), .val (.int (Int32.ofNat len)), .val (.int (Int32.ofNat i)), .val (.int (cv A (o + i)))] [.int (lo8 (cv A (o + i))), .int (Int32.ofNat (q + i)), .ref d])) := c5.trans (by
        refine XS.iload Xl.here hexec rfl (hb hbytes d15) rfl ?_
        refine sipushV Xl.here hexec rfl 255 (hb hbytes d17) (by decide) ?_
        refine XS.icmpYes Xl.here hexec rfl (pc0 := 20) rfl (hb hbytes d20) rfl (ii_le_t (hp i (by omega))) (by decide) rfl ?_
        refine XS.aloadN Xl.here hexec rfl (hb hbytes d26) rfl rfl ?_
        refine XS.iloadN Xl.here hexec rfl (hb hbytes d27) rfl ?_
        refine XS.iload Xl.here hexec rfl (hb hbytes d28) rfl ?_
        refine i2b Xl.here hexec rfl (hb hbytes d30) rfl ?_
        exact Steps.refl _)
      obtain ⟨T7, X7, p7, st7⟩ := Xl.aput hexec hBk rfl hlt rfl (fits_lo8 (cv A (o + i))) (g := (mkF m 31 #[.val (.ref b), .val (.int (Int32.ofNat (o + i))), .val (.ref d), .val (.int (Int32.ofNat (q + i))), .val (.int (Int32.ofNat len)), .val (.int (Int32.ofNat i)), .val (.int (cv A (o + i)))] [.int (lo8 (cv A (o + i))), .int (Int32.ofNat (q + i)), .ref d])) rfl (rest := []) rfl (hb hbytes d31)
      have c8 : Steps p.tables e below (s₁.setTop (entryFrame m #[.ref b, .int (Int32.ofNat o), .ref d, .int (Int32.ofNat q), .int (Int32.ofNat len)] 7)) (T7.setTop (mkF m 32 #[.val (.ref b), .val (.int (Int32.ofNat (o + i))), .val (.ref d), .val (.int (Int32.ofNat (q + i))), .val (.int (Int32.ofNat len)), .val (.int (Int32.ofNat i)), .val (.int (cv A (o + i)))] [])) := c6.trans (st7 _ (Steps.refl _))
      have c9 : Steps p.tables e below (s₁.setTop (entryFrame m #[.ref b, .int (Int32.ofNat o), .ref d, .int (Int32.ofNat q), .int (Int32.ofNat len)] 7)) (T7.setTop (mkF m 3 #[.val (.ref b), .val (.int (Int32.ofNat (o + i) + 1)), .val (.ref d), .val (.int (Int32.ofNat (q + i) + 1)), .val (.int (Int32.ofNat len)), .val (.int (Int32.ofNat i + 1)), .val (.int (cv A (o + i)))] [])) := c8.trans (by
        refine iincV X7.here hexec rfl 1 (hb hbytes d32) (by decide) rfl rfl ?_
        refine iincV X7.here hexec rfl 1 (hb hbytes d35) (by decide) rfl rfl ?_
        refine iincV X7.here hexec rfl 1 (hb hbytes d38) (by decide) rfl rfl ?_
        refine XS.goto X7.here hexec rfl (pc0 := 41) rfl (hb hbytes d41) (by decide) rfl ?_
        exact Steps.refl _)
      have c10 : Steps p.tables e below (s₁.setTop (entryFrame m #[.ref b, .int (Int32.ofNat o), .ref d, .int (Int32.ofNat q), .int (Int32.ofNat len)] 7)) (T7.setTop (mkF m 3 #[.val (.ref b), .val (.int (Int32.ofNat (o + (i + 1)))), .val (.ref d), .val (.int (Int32.ofNat (q + (i + 1)))), .val (.int (Int32.ofNat len)), .val (.int (Int32.ofNat (i + 1))), .val (.int (cv A (o + i)))] [])) := by
        have := c9
        rw [succ32, succ32, succ32] at this
        exact this
      exact ih (i + 1) (by omega) _ (Or.inr ⟨_, rfl, rfl⟩) T7 _ (by rw [copyLocs_step, ← List.append_assoc]; exact X7) (pl.trans p7) (fl.step (by omega) hlt (by simp)) c10
  obtain ⟨T9, B9, z9, X9, p9, f9, g9⟩ := loop len 0 (by omega) .unset (Or.inl rfl) s₁ B (by simpa [copyLocs] using X0) ⟨hB0.1, fun _ _ => rfl, rfl⟩ (Laid.zero _ _ _) c2
  have c11 : Steps p.tables e below (s₁.setTop (entryFrame m #[.ref b, .int (Int32.ofNat o), .ref d, .int (Int32.ofNat q), .int (Int32.ofNat len)] 7)) (T9.setTop (mkF m 46 #[.val (.ref b), .val (.int (Int32.ofNat (o + len))), .val (.ref d), .val (.int (Int32.ofNat (q + len))), .val (.int (Int32.ofNat len)), .val (.int (Int32.ofNat len)), z9] [.int (Int32.ofNat len)])) := g9.trans (by
    refine XS.iload X9.here hexec rfl (hb hbytes d3) rfl ?_
    refine XS.iload X9.here hexec rfl (hb hbytes d5) rfl ?_
    refine XS.icmpYes X9.here hexec rfl (pc0 := 7) rfl (hb hbytes d7) rfl (ii_ge_t (nlt32 (by omega) (Nat.le_refl _))) (by decide) rfl ?_
    refine XS.iload X9.here hexec rfl (hb hbytes d44) rfl ?_
    exact Steps.refl _)
  exact ⟨T9, some (.int (Int32.ofNat len)), _, _, _, X9, by simp, rfl, rfl, (fun h => by cases h), ⟨rfl, B9, p9.from hh0, f9⟩, fun fs hl => c11.trans (X9.ireturnOut hexec hret rfl (Or.inl rfl) (hb hbytes d46) hl)⟩
end Cmp5
namespace Cmp3
def yN : MethodName := ⟨"java/lang/StringUTF16", "compress", "([CII)[B"⟩
abbrev yB : ByteArray := jdk_52_method_16_code
theorem d0 : decode yB 0 = .ok (.iload_n 2, 1) := by decide +kernel
theorem d1 : decode yB 1 = .ok (.newarray .byte, 2) := by decide +kernel
theorem d3 : decode yB 3 = .ok (.astore_n 3, 1) := by decide +kernel
theorem d4 : decode yB 4 = .ok (.aload_n 0, 1) := by decide +kernel
theorem d5 : decode yB 5 = .ok (.iload_n 1, 1) := by decide +kernel
theorem d6 : decode yB 6 = .ok (.aload_n 3, 1) := by decide +kernel
theorem d7 : decode yB 7 = .ok (.iconst 0, 1) := by decide +kernel
theorem d8 : decode yB 8 = .ok (.iload_n 2, 1) := by decide +kernel
theorem d9 : decode yB 9 = .ok (.invokestatic 115, 3) := by decide +kernel
theorem d12 : decode yB 12 = .ok (.istore 4, 2) := by decide +kernel
theorem d14 : decode yB 14 = .ok (.iload 4, 2) := by decide +kernel
theorem d16 : decode yB 16 = .ok (.iload_n 2, 1) := by decide +kernel
theorem d17 : decode yB 17 = .ok (.if_icmp (.eq) 40, 3) := by decide +kernel
theorem d57 : decode yB 57 = .ok (.aload_n 3, 1) := by decide +kernel
theorem d58 : decode yB 58 = .ok (.areturn, 1) := by decide +kernel
def site : List Cond := [.arrayClass .byte, Cmp5.tab] ++ staticW U16 115 Cmp5.yN
def tab : Cond := tabOf yN yB 6 (some (.array .byte)) site
def P (b : Addr) (A : Cell) (o len : Nat) (args : Array Value) (s : State) : Prop := args = #[.ref b, .int (Int32.ofNat o), .int (Int32.ofNat len)] ∧ Ch b A s ∧ o + len ≤ A.slots.size ∧ len ≤ 536870912 ∧ ∀ i, i < len → ¬ 255 < cv A (o + i)
def E (b : Addr) (A : Cell) (o len : Nat) (r : Option Value) (s u : State) : Prop := NewArr .byte "[B" len (fun j => .int (lo8 (cv A (o + j)))) r s u ∧ u.heap.size = s.heap.size + 1
/-- no char of the range above 255: a new byte[] of their low bytes -/
theorem law (l : Launch) (b : Addr) (A : Cell) (o len : Nat) : Law l yN 3 3 1 18 yB 6 (some (.array .byte)) site (P b A o len) (E b A o len) [] 1 len := by
  refine Law.of_walk (plainFor_of_name (by decide +kernel)) (by decide +kernel) (by decide +kernel) (by decide) (fun _ _ h => by rw [h.1]; rfl) (fun _ U U' hal hh h => ⟨h.1, h.2.1.mv hal hh, h.2.2⟩) (fun r U U' V V' h1 hal h2 h => ⟨NewArr.mv r U U' V V' h1 hal h2 h.1, by rw [h1, h2]; exact h.2⟩) ?_
  intro p e s m args below meth c s₁ X0 hexec hbytes hml hret hlk hnm hown hh0 W hP
  obtain ⟨rfl, hA, l1, l2, hp⟩ := hP
  have a31 := hA.1.2.2.2
  have c1 : Steps p.tables e below (s₁.setTop (entryFrame m #[.ref b, .int (Int32.ofNat o), .int (Int32.ofNat len)] 6)) (s₁.setTop (mkF m 0 #[.val (.ref b), .val (.int (Int32.ofNat o)), .val (.int (Int32.ofNat len)), .unset, .unset, .unset] [])) := entry rfl
  have c2 : Steps p.tables e below (s₁.setTop (entryFrame m #[.ref b, .int (Int32.ofNat o), .int (Int32.ofNat len)] 6)) (s₁.setTop (mkF m 1 #[.val (.ref b), .val (.int (Int32.ofNat o)), .val (.int (Int32.ofNat len)), .unset, .unset, .unset] [.int (Int32.ofNat len)])) := c1.trans (by
    refine XS.iloadN X0.here hexec rfl (hb hbytes d0) rfl ?_
    exact Steps.refl _)
  obtain ⟨T3, B3, X3, ba3, bs3, bv3, bh3, bf3, st3⟩ := X0.anew hexec (atype := .byte) (wk W (.arrayClass .byte)) rfl (by show len * 1 ≤ _; omega) (by omega) (g := (mkF m 1 #[.val (.ref b), .val (.int (Int32.ofNat o)), .val (.int (Int32.ofNat len)), .unset, .unset, .unset] [.int (Int32.ofNat len)])) rfl (hb hbytes d1) (rest := []) rfl (Nat.le_refl _) (by show 0 + len ≤ len; omega)
  rw [hh0] at ba3 st3
  have kp3 : XT.Kept s T3 := (XT.Kept.of_eq hh0).push bh3
  have hA3 := hA.keep X3.warmed.alike (kp3 _ _ hA.1.1)
  have hne : b ≠ s.heap.size := hA.1.ne
  have c4 : Steps p.tables e below (s₁.setTop (entryFrame m #[.ref b, .int (Int32.ofNat o), .int (Int32.ofNat len)] 6)) (T3.setTop (mkF m 3 #[.val (.ref b), .val (.int (Int32.ofNat o)), .val (.int (Int32.ofNat len)), .unset, .unset, .unset] [.ref s.heap.size])) := c2.trans (st3 _ (Steps.refl _))
  have c5 : Steps p.tables e below (s₁.setTop (entryFrame m #[.ref b, .int (Int32.ofNat o), .int (Int32.ofNat len)] 6)) (T3.setTop (mkF m 9 #[.val (.ref b), .val (.int (Int32.ofNat o)), .val (.int (Int32.ofNat len)), .val (.ref s.heap.size), .unset, .unset] [.int (Int32.ofNat len), .int 0, .ref s.heap.size, .int (Int32.ofNat o), .ref b])) := c4.trans (by
    refine XS.astoreN X3.here hexec rfl (hb hbytes d3) rfl rfl rfl ?_
    refine XS.aloadN X3.here hexec rfl (hb hbytes d4) rfl rfl ?_
    refine XS.iloadN X3.here hexec rfl (hb hbytes d5) rfl ?_
    refine XS.aloadN X3.here hexec rfl (hb hbytes d6) rfl rfl ?_
    refine iconstV X3.here hexec rfl 0 (hb hbytes d7) (by decide) ?_
    refine XS.iloadN X3.here hexec rfl (hb hbytes d8) rfl ?_
    exact Steps.refl _)
  obtain ⟨v6, T6, X6, E6, g6⟩ := X3.callS hexec (Cmp5.law l b A s.heap.size B3 o 0 len) hown (wks W (staticW U16 115 Cmp5.yN)) (wk W Cmp5.tab) (W := 0) (Nat.le_of_ble_eq_true rfl) (Nat.le_of_ble_eq_true rfl) (Nat.le_refl _) (by show 0 + len + 0 ≤ len; omega) (g := (mkF m 9 #[.val (.ref b), .val (.int (Int32.ofNat o)), .val (.int (Int32.ofNat len)), .val (.ref s.heap.size), .unset, .unset] [.int (Int32.ofNat len), .int (Int32.ofNat 0), .ref s.heap.size, .int (Int32.ofNat o), .ref b])) rfl (by rw [hml]; rfl) c5 (argsL := [.ref b, .int (Int32.ofNat o), .ref s.heap.size, .int (Int32.ofNat 0), .int (Int32.ofNat len)]) (rest := []) rfl rfl (by show 2 * 0 + 0 ≤ _; decide) (hb hbytes d9) (⟨rfl, hA3, ba3, hne, l1, by rw [bs3]; simp, hp⟩)
  obtain ⟨rfl, B6, p6, f6⟩ := E6
  have c7 : Steps p.tables e below (s₁.setTop (entryFrame m #[.ref b, .int (Int32.ofNat o), .int (Int32.ofNat len)] 6)) (T6.setTop (mkF m 12 #[.val (.ref b), .val (.int (Int32.ofNat o)), .val (.int (Int32.ofNat len)), .val (.ref s.heap.size), .unset, .unset] [.int (Int32.ofNat len)])) := g6
  have c8 : Steps p.tables e below (s₁.setTop (entryFrame m #[.ref b, .int (Int32.ofNat o), .int (Int32.ofNat len)] 6)) (T6.setTop (mkF m 58 #[.val (.ref b), .val (.int (Int32.ofNat o)), .val (.int (Int32.ofNat len)), .val (.ref s.heap.size), .val (.int (Int32.ofNat len)), .unset] [.ref s.heap.size])) := c7.trans (by
    refine XS.istore X6.here hexec rfl (hb hbytes d12) rfl rfl ?_
    refine XS.iload X6.here hexec rfl (hb hbytes d14) rfl ?_
    refine XS.iloadN X6.here hexec rfl (hb hbytes d16) rfl ?_
    refine XS.icmpYes X6.here hexec rfl (pc0 := 17) rfl (hb hbytes d17) rfl (ii_eq_t rfl) (by decide) rfl ?_
    refine XS.aloadN X6.here hexec rfl (hb hbytes d57) rfl rfl ?_
    exact Steps.refl _)
  have X8 := X6.wide (L' := []) (cells' := 1) (slots' := len) (fun x hx hlt => by
    simp only [List.nil_append, copyLocs, List.mem_map, List.mem_range] at hx
    obtain ⟨i, -, rfl⟩ := hx
    exact absurd hlt (Nat.lt_irrefl _)) (Nat.le_refl _) (by omega)
  exact ⟨T6, some (.ref s.heap.size), _, _, _, X8, rfl, rfl, rfl, (fun h => by cases h), ⟨⟨rfl, B6, ba3.like (X3.warmed.alike.symm.trans X6.warmed.alike) p6.1 f6.1 f6.2.1 f6.2.2.1, f6.2.1.trans bv3, by rw [X6.warmed.alike.findClass, f6.1]; exact bf3, by rw [f6.2.2.1, bs3]; simp, fun j hj => by rw [f6.2.2.2 j, if_pos (by omega)]; rfl, kp3.put p6 (Nat.le_refl _)⟩, by rw [p6.2.2, bh3, hh0]; simp⟩, fun fs hl => c8.trans (X8.areturnOut hexec rfl hret rfl (hb hbytes d58) hl)⟩
end Cmp3
namespace CodL
def yN : MethodName := ⟨"java/lang/StringUTF16", "coderFromArrayLen", "([BI)B"⟩
abbrev yB : ByteArray := jdk_52_method_15_code
theorem d0 : decode yB 0 = .ok (.iload_n 1, 1) := by decide +kernel
theorem d1 : decode yB 1 = .ok (.aload_n 0, 1) := by decide +kernel
theorem d2 : decode yB 2 = .ok (.arraylength, 1) := by decide +kernel
theorem d3 : decode yB 3 = .ok (.isub, 1) := by decide +kernel
theorem d4 : decode yB 4 = .ok (.bipush 31, 2) := by decide +kernel
theorem d6 : decode yB 6 = .ok (.iushr, 1) := by decide +kernel
theorem d7 : decode yB 7 = .ok (.i2b, 1) := by decide +kernel
theorem d8 : decode yB 8 = .ok (.ireturn, 1) := by decide +kernel
def site : List Cond := []
def tab : Cond := tabOf yN yB 2 (some .byte) site
def P (d : Addr) (B : Cell) (args : Array Value) (s : State) : Prop := args = #[.ref d, .int (Int32.ofNat B.slots.size)] ∧ Arr .byte d B s
def E (r : Option Value) (s u : State) : Prop := XT.PureE (some (.int 0)) r s u
/-- an array as long as the number of chars: LATIN1 -/
theorem law (l : Launch) (d : Addr) (B : Cell) : Law l yN 2 2 0 0 yB 2 (some .byte) site (P d B) E [] 0 0 := by
  refine Law.of_walk (plainFor_of_name (by decide +kernel)) (by decide +kernel) (by decide +kernel) (by decide) (fun _ _ h => by rw [h.1]; rfl) (fun _ U U' hal hh h => ⟨h.1, h.2.mv hal hh⟩) (fun r U U' V V' h1 hal h2 h => XT.PureE.mv r U U' V V' h1 hal h2 h) ?_
  intro p e s m args below meth c s₁ X0 hexec hbytes hml hret hlk hnm hown hh0 W hP
  obtain ⟨rfl, hB⟩ := hP
  have hB0 := hB.mv X0.warmed.alike hh0
  have c1 : Steps p.tables e below (s₁.setTop (entryFrame m #[.ref d, .int (Int32.ofNat B.slots.size)] 2)) (s₁.setTop (mkF m 0 #[.val (.ref d), .val (.int (Int32.ofNat B.slots.size))] [])) := entry rfl
  have c2 : Steps p.tables e below (s₁.setTop (entryFrame m #[.ref d, .int (Int32.ofNat B.slots.size)] 2)) (s₁.setTop (mkF m 2 #[.val (.ref d), .val (.int (Int32.ofNat B.slots.size))] [.ref d, .int (Int32.ofNat B.slots.size)])) := c1.trans (by
    refine XS.iloadN X0.here hexec rfl (hb hbytes d0) rfl ?_
    refine XS.aloadN X0.here hexec rfl (hb hbytes d1) rfl rfl ?_
    exact Steps.refl _)
  have c3 : Steps p.tables e below (s₁.setTop (entryFrame m #[.ref d, .int (Int32.ofNat B.slots.size)] 2)) (s₁.setTop (mkF m 8 #[.val (.ref d), .val (.int (Int32.ofNat B.slots.size))] [.int (lo8 (ushr (Int32.ofNat B.slots.size - Int32.ofNat B.slots.size) 31))])) := c2.trans (by
    refine X0.alen hexec hB0 rfl rfl (hb hbytes d2) ?_
    refine XS.isub X0.here hexec rfl (hb hbytes d3) rfl ?_
    refine bipushV X0.here hexec rfl 31 (hb hbytes d4) (by decide) ?_
    refine iushr X0.here hexec rfl (hb hbytes d6) rfl ?_
    refine i2b X0.here hexec rfl (hb hbytes d7) rfl ?_
    exact Steps.refl _)
  have e0 : lo8 (ushr (Int32.ofNat B.slots.size - Int32.ofNat B.slots.size) 31) = 0 := by rw [Int32.sub_self]; decide
  rw [e0] at c3
  exact ⟨s₁, some (.int 0), _, _, _, X0, rfl, rfl, rfl, (fun h => by cases h), ⟨rfl, hh0⟩, fun fs hl => c3.trans (X0.ireturnOut hexec hret rfl (Or.inr (Or.inr (Or.inl rfl))) (hb hbytes d8) hl)⟩
end CodL
/-- the String at a is Latin-1 over a new byte[] (the heap's one new cell): the low bytes of the len chars of A from o on; every cell but a is kept -/
def Got (a : Addr) (D : Cell) (fV fC : Field) (A : Cell) (o len : Nat) (r : Option Value) (s u : State) : Prop := r = none ∧ ∃ D' V : Cell, Blank "java/lang/String" a D' u ∧ Same D D' [fV.slot, fC.slot] ∧ D'.slots[fV.slot]? = some (.ref s.heap.size) ∧ D'.slots[fC.slot]? = some (.int 0) ∧ Arr .byte s.heap.size V u ∧ V.vm = .none ∧ u.vm.findClass "[B" = some V.cls ∧ V.slots.size = len ∧ (∀ j, j < len → V.slots[j]? = some (.int (lo8 (cv A (o + j))))) ∧ (∀ (y : Addr) (c : Cell), y ≠ a → s.heap[y]? = some c → u.heap[y]? = some c) ∧ u.heap.size = s.heap.size + 1
theorem Got.mv {a : Addr} {D A : Cell} {fV fC : Field} {o len : Nat} : ∀ r (U U' V V' : State), U'.heap = U.heap → V.vm.Alike V'.vm → V'.heap = V.heap → Got a D fV fC A o len r U V → Got a D fV fC A o len r U' V' :=
  fun r U U' V V' h1 hal h2 ⟨e0, D', X, a1, a2, a3, a4, a5, a6, a7, a8, a9, a10, a11⟩ => ⟨e0, D', X, a1.mv hal h2, a2, by rw [h1]; exact a3, a4, by rw [h1]; exact a5.mv hal h2, a6, by rw [hal.findClass]; exact a7, a8, a9, by rw [h1, h2]; exact a10, by rw [h1, h2]; exact a11⟩
namespace New4
def yN : MethodName := ⟨"java/lang/String", "<init>", "([CIILjava/lang/Void;)V"⟩
abbrev yB : ByteArray := jdk_42_method_149_code
theorem d0 : decode yB 0 = .ok (.aload_n 0, 1) := by decide +kernel
theorem d1 : decode yB 1 = .ok (.invokespecial 1, 3) := by decide +kernel
theorem d4 : decode yB 4 = .ok (.iload_n 3, 1) := by decide +kernel
theorem d5 : decode yB 5 = .ok (.ifCond (.ne) 22, 3) := by decide +kernel
theorem d27 : decode yB 27 = .ok (.getstatic 38, 3) := by decide +kernel
theorem d30 : decode yB 30 = .ok (.ifCond (.eq) 28, 3) := by decide +kernel
theorem d33 : decode yB 33 = .ok (.aload_n 1, 1) := by decide +kernel
theorem d34 : decode yB 34 = .ok (.iload_n 2, 1) := by decide +kernel
theorem d35 : decode yB 35 = .ok (.iload_n 3, 1) := by decide +kernel
theorem d36 : decode yB 36 = .ok (.invokestatic 177, 3) := by decide +kernel
theorem d39 : decode yB 39 = .ok (.astore 5, 2) := by decide +kernel
theorem d41 : decode yB 41 = .ok (.aload_n 0, 1) := by decide +kernel
theorem d42 : decode yB 42 = .ok (.aload 5, 2) := by decide +kernel
theorem d44 : decode yB 44 = .ok (.iload_n 3, 1) := by decide +kernel
theorem d45 : decode yB 45 = .ok (.invokestatic 47, 3) := by decide +kernel
theorem d48 : decode yB 48 = .ok (.putfield 15, 3) := by decide +kernel
theorem d51 : decode yB 51 = .ok (.aload_n 0, 1) := by decide +kernel
theorem d52 : decode yB 52 = .ok (.aload 5, 2) := by decide +kernel
theorem d54 : decode yB 54 = .ok (.putfield 9, 3) := by decide +kernel
theorem d57 : decode yB 57 = .ok (.return_, 1) := by decide +kernel
def site : List Cond := [.fieldLink "java/lang/String" 38 "java/lang/String" "COMPACT_STRINGS" "Z", Cmp3.tab, CodL.tab, .laysFinal "java/lang/String" "java/lang/String" "value" "[B", .fieldLink "java/lang/String" 9 "java/lang/String" "value" "[B", .laysFinal "java/lang/String" "java/lang/String" "coder" "B", .fieldLink "java/lang/String" 15 "java/lang/String" "coder" "B"] ++ objW "java/lang/String" 1 ++ staticW "java/lang/String" 177 Cmp3.yN ++ staticW "java/lang/String" 47 CodL.yN
def tab : Cond := tabOf yN yB 6 none site
def P (a : Addr) (D : Cell) (fV fC : Field) (b : Addr) (A : Cell) (z : Int32) (o len : Nat) (args : Array Value) (s : State) : Prop := args = #[.ref a, .ref b, .int (Int32.ofNat o), .int (Int32.ofNat len), .null] ∧ Blank "java/lang/String" a D s ∧ Found "java/lang/String" "value" "[B" fV s ∧ Found "java/lang/String" "coder" "B" fC s ∧ Ch b A s ∧ StaticIs s "java/lang/String" "COMPACT_STRINGS" "Z" (.int z) ∧ ¬ z = 0 ∧ 0 < len ∧ o + len ≤ A.slots.size ∧ len ≤ 536870912 ∧ ∀ i, i < len → ¬ 255 < cv A (o + i)
def E (a : Addr) (D : Cell) (fV fC : Field) (A : Cell) (o len : Nat) (r : Option Value) (s u : State) : Prop := Got a D fV fC A o len r s u
/-- len > 0, no char of the range above 255: a Latin-1 String of their low bytes -/
theorem law (l : Launch) (a : Addr) (D : Cell) (fV fC : Field) (b : Addr) (A : Cell) (z : Int32) (o len : Nat) : Law l yN 5 4 2 35 yB 6 none site (P a D fV fC b A z o len) (E a D fV fC A o len) [⟨a, fC.slot⟩, ⟨a, fV.slot⟩] 1 len := by
  refine Law.of_walk (plainFor_of_name (by decide +kernel)) (by decide +kernel) (by decide +kernel) (by decide) (fun _ _ h => by rw [h.1]; rfl) (fun _ U U' hal hh h => ⟨h.1, h.2.1.mv hal hh, h.2.2.1.al hal, h.2.2.2.1.al hal, h.2.2.2.2.1.mv hal hh, h.2.2.2.2.2.1.there hal hh, h.2.2.2.2.2.2⟩) (fun r U U' V V' h1 hal h2 h => Got.mv r U U' V V' h1 hal h2 h) ?_
  intro p e s m args below meth c s₁ X0 hexec hbytes hml hret hlk hnm hown hh0 W hP
  obtain ⟨rfl, hB, f1, f2, hA, s1, hz, l0, l1, l2, hp⟩ := hP
  have a31 := hA.1.2.2.2
  have c1 : Steps p.tables e below (s₁.setTop (entryFrame m #[.ref a, .ref b, .int (Int32.ofNat o), .int (Int32.ofNat len), .null] 6)) (s₁.setTop (mkF m 0 #[.val (.ref a), .val (.ref b), .val (.int (Int32.ofNat o)), .val (.int (Int32.ofNat len)), .val .null, .unset] [])) := entry rfl
  have c2 : Steps p.tables e below (s₁.setTop (entryFrame m #[.ref a, .ref b, .int (Int32.ofNat o), .int (Int32.ofNat len), .null] 6)) (s₁.setTop (mkF m 1 #[.val (.ref a), .val (.ref b), .val (.int (Int32.ofNat o)), .val (.int (Int32.ofNat len)), .val .null, .unset] [.ref a])) := c1.trans (by
    refine XS.aloadN X0.here hexec rfl (hb hbytes d0) rfl rfl ?_
    exact Steps.refl _)
  obtain ⟨T3, X3, q3, st3⟩ := X0.oinit hexec hown (wks W (objW "java/lang/String" 1)) (g := (mkF m 1 #[.val (.ref a), .val (.ref b), .val (.int (Int32.ofNat o)), .val (.int (Int32.ofNat len)), .val .null, .unset] [.ref a])) rfl (by rw [hml]; rfl) (rest := []) rfl (hb hbytes d1) (W := 0) (by show 2 * 0 + 0 ≤ _; decide) (Nat.le_of_ble_eq_true rfl) (Nat.le_of_ble_eq_true rfl)
  have hh3 := q3.trans hh0
  have c4 : Steps p.tables e below (s₁.setTop (entryFrame m #[.ref a, .ref b, .int (Int32.ofNat o), .int (Int32.ofNat len), .null] 6)) (T3.setTop (mkF m 27 #[.val (.ref a), .val (.ref b), .val (.int (Int32.ofNat o)), .val (.int (Int32.ofNat len)), .val .null, .unset] [])) := (c2.trans (st3 _ (Steps.refl _))).trans (by
    refine XS.iloadN X3.here hexec rfl (hb hbytes d4) rfl ?_
    refine XS.ifYes X3.here hexec rfl (pc0 := 5) rfl (hb hbytes d5) rfl (i0_ne_t (nz32 (by omega) l0)) (by decide) rfl ?_
    exact Steps.refl _)
  obtain ⟨T5, X5, q5, st5⟩ := X3.sget hexec hown (wk W (.fieldLink "java/lang/String" 38 "java/lang/String" "COMPACT_STRINGS" "Z")) s1 (fun _ _ h => by rw [hh3]; exact h) (g := (mkF m 27 #[.val (.ref a), .val (.ref b), .val (.int (Int32.ofNat o)), .val (.int (Int32.ofNat len)), .val .null, .unset] [])) rfl (hb hbytes d27)
  have hh5 := q5.trans hh3
  have c6 : Steps p.tables e below (s₁.setTop (entryFrame m #[.ref a, .ref b, .int (Int32.ofNat o), .int (Int32.ofNat len), .null] 6)) (T5.setTop (mkF m 30 #[.val (.ref a), .val (.ref b), .val (.int (Int32.ofNat o)), .val (.int (Int32.ofNat len)), .val .null, .unset] [.int z])) := c4.trans (st5 _ (Steps.refl _))
  have c7 : Steps p.tables e below (s₁.setTop (entryFrame m #[.ref a, .ref b, .int (Int32.ofNat o), .int (Int32.ofNat len), .null] 6)) (T5.setTop (mkF m 36 #[.val (.ref a), .val (.ref b), .val (.int (Int32.ofNat o)), .val (.int (Int32.ofNat len)), .val .null, .unset] [.int (Int32.ofNat len), .int (Int32.ofNat o), .ref b])) := c6.trans (by
    refine XS.ifNo X5.here hexec rfl (hb hbytes d30) rfl (i0_eq_f hz) ?_
    refine XS.aloadN X5.here hexec rfl (hb hbytes d33) rfl rfl ?_
    refine XS.iloadN X5.here hexec rfl (hb hbytes d34) rfl ?_
    refine XS.iloadN X5.here hexec rfl (hb hbytes d35) rfl ?_
    exact Steps.refl _)
  obtain ⟨v8, T8, X8, E8, g8⟩ := X5.callS hexec (Cmp3.law l b A o len) hown (wks W (staticW "java/lang/String" 177 Cmp3.yN)) (wk W Cmp3.tab) (W := 0) (Nat.le_of_ble_eq_true rfl) (Nat.le_of_ble_eq_true rfl) (Nat.le_refl _) (by show 0 + len ≤ len; omega) (g := (mkF m 36 #[.val (.ref a), .val (.ref b), .val (.int (Int32.ofNat o)), .val (.int (Int32.ofNat len)), .val .null, .unset] [.int (Int32.ofNat len), .int (Int32.ofNat o), .ref b])) rfl (by rw [hml]; rfl) c7 (argsL := [.ref b, .int (Int32.ofNat o), .int (Int32.ofNat len)]) (rest := []) rfl rfl (by show 2 * 0 + 0 ≤ _; decide) (hb hbytes d36) (⟨rfl, hA.mv X5.warmed.alike hh5, l1, l2, hp⟩)
  obtain ⟨e8, z8⟩ := E8
  obtain ⟨rfl, N, n1, n2, n3, n4, n5, n6⟩ := NewArr.mv _ T5 s _ _ hh5.symm (Vm.Alike.refl _) rfl e8
  rw [hh5] at z8
  have hB1 := hB.keep X8.warmed.alike (n6 _ _ hB.1)
  have hne : s.heap.size ≠ a := (Nat.ne_of_lt (Array.getElem?_eq_some_iff.mp hB.1).1).symm
  have c9 : Steps p.tables e below (s₁.setTop (entryFrame m #[.ref a, .ref b, .int (Int32.ofNat o), .int (Int32.ofNat len), .null] 6)) (T8.setTop (mkF m 39 #[.val (.ref a), .val (.ref b), .val (.int (Int32.ofNat o)), .val (.int (Int32.ofNat len)), .val .null, .unset] [.ref s.heap.size])) := g8
  have c10 : Steps p.tables e below (s₁.setTop (entryFrame m #[.ref a, .ref b, .int (Int32.ofNat o), .int (Int32.ofNat len), .null] 6)) (T8.setTop (mkF m 45 #[.val (.ref a), .val (.ref b), .val (.int (Int32.ofNat o)), .val (.int (Int32.ofNat len)), .val .null, .val (.ref s.heap.size)] [.int (Int32.ofNat N.slots.size), .ref s.heap.size, .ref a])) := by
    have hc : Steps p.tables e below (s₁.setTop (entryFrame m #[.ref a, .ref b, .int (Int32.ofNat o), .int (Int32.ofNat len), .null] 6)) (T8.setTop (mkF m 45 #[.val (.ref a), .val (.ref b), .val (.int (Int32.ofNat o)), .val (.int (Int32.ofNat len)), .val .null, .val (.ref s.heap.size)] [.int (Int32.ofNat len), .ref s.heap.size, .ref a])) := c9.trans (by
      refine XS.astore X8.here hexec rfl (hb hbytes d39) rfl rfl rfl ?_
      refine XS.aloadN X8.here hexec rfl (hb hbytes d41) rfl rfl ?_
      refine XS.aload X8.here hexec rfl (hb hbytes d42) rfl rfl ?_
      refine XS.iloadN X8.here hexec rfl (hb hbytes d44) rfl ?_
      exact Steps.refl _)
    rw [n4]; exact hc
  obtain ⟨v11, T11, X11, E11, g11⟩ := X8.callS hexec (CodL.law l s.heap.size N) hown (wks W (staticW "java/lang/String" 47 CodL.yN)) (wk W CodL.tab) (W := 1) (Nat.le_of_ble_eq_true rfl) (Nat.le_of_ble_eq_true rfl) (Nat.le_refl _) (by show 0 + len + 0 ≤ len; omega) (g := (mkF m 45 #[.val (.ref a), .val (.ref b), .val (.int (Int32.ofNat o)), .val (.int (Int32.ofNat len)), .val .null, .val (.ref s.heap.size)] [.int (Int32.ofNat N.slots.size), .ref s.heap.size, .ref a])) rfl (by rw [hml]; rfl) c10 (argsL := [.ref s.heap.size, .int (Int32.ofNat N.slots.size)]) (rest := [.ref a]) rfl rfl (by show 2 * 0 + (1 + 0) ≤ _; decide) (hb hbytes d45) (⟨rfl, n1⟩)
  obtain ⟨rfl, q11⟩ := E11
  have hB11 := hB1.mv (X8.warmed.alike.symm.trans X11.warmed.alike) q11
  have c12 : Steps p.tables e below (s₁.setTop (entryFrame m #[.ref a, .ref b, .int (Int32.ofNat o), .int (Int32.ofNat len), .null] 6)) (T11.setTop (mkF m 48 #[.val (.ref a), .val (.ref b), .val (.int (Int32.ofNat o)), .val (.int (Int32.ofNat len)), .val .null, .val (.ref s.heap.size)] [.int 0, .ref a])) := g11
  obtain ⟨T13, X13, p13, bl13, sl13, st13⟩ := X11.finit hexec hown (wk W (.fieldLink "java/lang/String" 15 "java/lang/String" "coder" "B")) (Or.inr ⟨_, (wk W (.laysFinal "java/lang/String" "java/lang/String" "coder" "B"))⟩) (Or.inl ⟨rfl, hnm⟩) f2 (Or.inl rfl) hB11 (t := .byte) (by decide +kernel) rfl (g := (mkF m 48 #[.val (.ref a), .val (.ref b), .val (.int (Int32.ofNat o)), .val (.int (Int32.ofNat len)), .val .null, .val (.ref s.heap.size)] [.int 0, .ref a])) rfl (rest := []) rfl (hb hbytes d48)
  have c14 : Steps p.tables e below (s₁.setTop (entryFrame m #[.ref a, .ref b, .int (Int32.ofNat o), .int (Int32.ofNat len), .null] 6)) (T13.setTop (mkF m 54 #[.val (.ref a), .val (.ref b), .val (.int (Int32.ofNat o)), .val (.int (Int32.ofNat len)), .val .null, .val (.ref s.heap.size)] [.ref s.heap.size, .ref a])) := (c12.trans (st13 _ (Steps.refl _))).trans (by
    refine XS.aloadN X13.here hexec rfl (hb hbytes d51) rfl rfl ?_
    refine XS.aload X13.here hexec rfl (hb hbytes d52) rfl rfl ?_
    exact Steps.refl _)
  obtain ⟨T15, X15, p15, bl15, sl15, st15⟩ := X13.finit hexec hown (wk W (.fieldLink "java/lang/String" 9 "java/lang/String" "value" "[B")) (Or.inr ⟨_, (wk W (.laysFinal "java/lang/String" "java/lang/String" "value" "[B"))⟩) (Or.inl ⟨rfl, hnm⟩) f1 (Or.inl rfl) bl13 (t := (.array .byte)) (by decide +kernel) rfl (g := (mkF m 54 #[.val (.ref a), .val (.ref b), .val (.int (Int32.ofNat o)), .val (.int (Int32.ofNat len)), .val .null, .val (.ref s.heap.size)] [.ref s.heap.size, .ref a])) rfl (rest := []) rfl (hb hbytes d54)
  have c16 : Steps p.tables e below (s₁.setTop (entryFrame m #[.ref a, .ref b, .int (Int32.ofNat o), .int (Int32.ofNat len), .null] 6)) (T15.setTop (mkF m 57 #[.val (.ref a), .val (.ref b), .val (.int (Int32.ofNat o)), .val (.int (Int32.ofNat len)), .val .null, .val (.ref s.heap.size)] [])) := c14.trans (st15 _ (Steps.refl _))
  have ap := apart (Or.inr ⟨_, (wk W (.laysFinal "java/lang/String" "java/lang/String" "value" "[B"))⟩) (Or.inr ⟨_, (wk W (.laysFinal "java/lang/String" "java/lang/String" "coder" "B"))⟩) f1 f2 (t₁ := .array .byte) (t₂ := .byte) (by decide +kernel) (by decide +kernel) (by decide)
  have al := X8.warmed.alike.symm.trans X15.warmed.alike
  have n7 : T11.heap[s.heap.size]? = some N := by rw [q11]; exact n1.1
  exact ⟨T15, none, _, _, _, X15, by simp, rfl, by omega, (fun _ => rfl), ⟨rfl, _, N, bl15, ((Same.refl D _).set _ (by simp)).set _ (by simp), sl15, (Cell.slots_setSlot_ne _ ap).trans sl13, n1.keep al (p15.other hne (p13.other hne n7)), n2, by rw [al.findClass]; exact n3, n4, n5, fun y c h1 h2 => p15.other h1 (p13.other h1 (by rw [q11]; exact n6 y c h2)), by rw [p15.2.2, p13.2.2, q11]; exact z8⟩, fun fs hl => c16.trans (X15.returnOut hexec hret (hb hbytes d57) hl)⟩
end New4
namespace New1
def yN : MethodName := ⟨"java/lang/String", "<init>", "([C)V"⟩
abbrev yB : ByteArray := jdk_42_method_3_code
theorem d0 : decode yB 0 = .ok (.aload_n 0, 1) := by decide +kernel
theorem d1 : decode yB 1 = .ok (.aload_n 1, 1) := by decide +kernel
theorem d2 : decode yB 2 = .ok (.iconst 0, 1) := by decide +kernel
theorem d3 : decode yB 3 = .ok (.aload_n 1, 1) := by decide +kernel
theorem d4 : decode yB 4 = .ok (.arraylength, 1) := by decide +kernel
theorem d5 : decode yB 5 = .ok (.aconst_null, 1) := by decide +kernel
theorem d6 : decode yB 6 = .ok (.invokespecial 27, 3) := by decide +kernel
theorem d9 : decode yB 9 = .ok (.return_, 1) := by decide +kernel
def site : List Cond := [New4.tab] ++ initW "java/lang/String" 27 New4.yN
def tab : Cond := tabOf yN yB 2 none site
def P (a : Addr) (D : Cell) (fV fC : Field) (b : Addr) (A : Cell) (z : Int32) (args : Array Value) (s : State) : Prop := args = #[.ref a, .ref b] ∧ Blank "java/lang/String" a D s ∧ Found "java/lang/String" "value" "[B" fV s ∧ Found "java/lang/String" "coder" "B" fC s ∧ Ch b A s ∧ StaticIs s "java/lang/String" "COMPACT_STRINGS" "Z" (.int z) ∧ ¬ z = 0 ∧ 0 < A.slots.size ∧ A.slots.size ≤ 536870912 ∧ ∀ i, i < A.slots.size → ¬ 255 < cv A i
def E (a : Addr) (D : Cell) (fV fC : Field) (A : Cell) (r : Option Value) (s u : State) : Prop := Got a D fV fC A 0 A.slots.size r s u
/-- new String(chars), not empty, no char above 255: a Latin-1 String of their low bytes -/
theorem law (l : Launch) (a : Addr) (D : Cell) (fV fC : Field) (b : Addr) (A : Cell) (z : Int32) : Law l yN 2 1 3 52 yB 2 none site (P a D fV fC b A z) (E a D fV fC A) [⟨a, fC.slot⟩, ⟨a, fV.slot⟩] 1 A.slots.size := by
  refine Law.of_walk (plainFor_of_name (by decide +kernel)) (by decide +kernel) (by decide +kernel) (by decide) (fun _ _ h => by rw [h.1]; rfl) (fun _ U U' hal hh h => ⟨h.1, h.2.1.mv hal hh, h.2.2.1.al hal, h.2.2.2.1.al hal, h.2.2.2.2.1.mv hal hh, h.2.2.2.2.2.1.there hal hh, h.2.2.2.2.2.2⟩) (fun r U U' V V' h1 hal h2 h => Got.mv r U U' V V' h1 hal h2 h) ?_
  intro p e s m args below meth c s₁ X0 hexec hbytes hml hret hlk hnm hown hh0 W hP
  obtain ⟨rfl, hB, f1, f2, hA, s1, hz, l0, l2, hp⟩ := hP
  have c1 : Steps p.tables e below (s₁.setTop (entryFrame m #[.ref a, .ref b] 2)) (s₁.setTop (mkF m 0 #[.val (.ref a), .val (.ref b)] [])) := entry rfl
  have c2 : Steps p.tables e below (s₁.setTop (entryFrame m #[.ref a, .ref b] 2)) (s₁.setTop (mkF m 6 #[.val (.ref a), .val (.ref b)] [.null, .int (Int32.ofNat A.slots.size), .int 0, .ref b, .ref a])) := c1.trans (by
    refine XS.aloadN X0.here hexec rfl (hb hbytes d0) rfl rfl ?_
    refine XS.aloadN X0.here hexec rfl (hb hbytes d1) rfl rfl ?_
    refine iconstV X0.here hexec rfl 0 (hb hbytes d2) (by decide) ?_
    refine XS.aloadN X0.here hexec rfl (hb hbytes d3) rfl rfl ?_
    refine X0.alen hexec (hA.1.mv X0.warmed.alike hh0) rfl rfl (hb hbytes d4) ?_
    refine XS.aconstNull X0.here hexec rfl (hb hbytes d5) ?_
    exact Steps.refl _)
  obtain ⟨v3, T3, X3, E3, g3⟩ := X0.callN hexec (New4.law l a D fV fC b A z 0 A.slots.size) rfl hown (wks W (initW "java/lang/String" 27 New4.yN)) (W New4.tab (by simp only [site, List.mem_cons, List.mem_append, true_or, or_true])) (W := 0) (Nat.le_of_ble_eq_true rfl) (Nat.le_of_ble_eq_true rfl) (Nat.le_refl _) (by show 0 + A.slots.size ≤ A.slots.size; omega) (g := (mkF m 6 #[.val (.ref a), .val (.ref b)] [.null, .int (Int32.ofNat A.slots.size), .int (Int32.ofNat 0), .ref b, .ref a])) rfl (by rw [hml]; rfl) c2 (argsL := [.ref b, .int (Int32.ofNat 0), .int (Int32.ofNat A.slots.size), .null]) (rest := []) rfl rfl (by show 2 * 0 + 0 ≤ _; decide) (hb hbytes d6) (⟨rfl, hB.mv X0.warmed.alike hh0, f1.al X0.warmed.alike, f2.al X0.warmed.alike, hA.mv X0.warmed.alike hh0, s1.there X0.warmed.alike hh0, hz, l0, by omega, l2, fun i hi => by rw [Nat.zero_add]; exact hp i hi⟩)
  have e0 := Got.mv _ s₁ s _ _ hh0.symm (Vm.Alike.refl _) rfl E3
  obtain rfl := e0.1
  have c4 : Steps p.tables e below (s₁.setTop (entryFrame m #[.ref a, .ref b] 2)) (T3.setTop (mkF m 9 #[.val (.ref a), .val (.ref b)] [])) := g3
  exact ⟨T3, none, _, _, _, X3, by simp, rfl, by omega, (fun _ => rfl), e0, fun fs hl => c4.trans (X3.returnOut hexec hret (hb hbytes d9) hl)⟩
theorem pays {l : Launch} {R : Room} {p : Program} {e : Env} {below : List Frame} {s : State} {sargs : Array Value} {len W : Nat} (a : Addr) (D : Cell) (fV fC : Field) (b : Addr) (A : Cell) (z : Int32) (htab : tab.before sargs s = true) (hfr : 4 ≤ R.frames) (hlo : W + 65 ≤ R.locals) :
    Back l R p e below s sargs yN len W (fun A₁ a₁ => A₁.cells + 1 ≤ R.cells ∧ A₁.slots + A.slots.size ≤ R.slots ∧ P a D fV fC b A z a₁ A₁.U) (fun A₁ _ v₁ B₁ => E a D fV fC A v₁ A₁.U B₁.U ∧ B₁.locs = A₁.locs ++ [⟨a, fC.slot⟩, ⟨a, fV.slot⟩] ∧ B₁.cells = A₁.cells + 1 ∧ B₁.slots = A₁.slots + A.slots.size) :=
  (law l a D fV fC b A z).pays htab hfr (by omega)
end New1
end StrChars
namespace StrChars.Road
open Jvm Sem ClassFile Op Lib Jvm.Stand Jvm.Free Jvm.Free.XT
open Jvm.Lib.Cold (StaticIs)
abbrev ST : String := "java/lang/String"
/-- every table word that New1's law asks, flat -/
abbrev words : List Jvm.Cond := [.code New1.yN New1.yB 2 none, .initialized ST, .methodLink ST 27 New4.yN, .instanceMethod New4.yN,
  .code New4.yN New4.yB 6 none, .fieldLink ST 38 ST "COMPACT_STRINGS" "Z", .laysFinal ST ST "value" "[B", .fieldLink ST 9 ST "value" "[B", .laysFinal ST ST "coder" "B", .fieldLink ST 15 ST "coder" "B",
  .methodLink ST 1 Lib.objectInit, .instanceMethod Lib.objectInit, .code Lib.objectInit ⟨#[0xb1]⟩ 1 none, .methodLink ST 177 Cmp3.yN, .static Cmp3.yN, .methodLink ST 47 CodL.yN, .static CodL.yN,
  .code Cmp3.yN Cmp3.yB 6 (some (.array .byte)), .initialized U16, .arrayClass .byte, .methodLink U16 115 Cmp5.yN, .static Cmp5.yN, .code Cmp5.yN Cmp5.yB 7 (some .int), .code CodL.yN CodL.yB 2 (some .byte)]
theorem tab_of {a : Array Value} {s : State} (h : ∀ w ∈ words, w.before a s = true) : New1.tab.before a s = true := by
  have h5 : Cmp5.tab.before a s = true := unparts (wk h (.code Cmp5.yN Cmp5.yB 7 (some .int))) (wks h (.initialized Cmp5.yN.cls :: Cmp5.site))
  have hc : CodL.tab.before a s = true := unparts (wk h (.code CodL.yN CodL.yB 2 (some .byte))) (wks h (.initialized CodL.yN.cls :: CodL.site))
  have q5 : ∀ w ∈ Cmp5.tab :: words, w.before a s = true := fun w hw => (List.mem_cons.mp hw).elim (fun e => e ▸ h5) (h w)
  have h3 : Cmp3.tab.before a s = true := unparts (wk q5 (.code Cmp3.yN Cmp3.yB 6 (some (.array .byte)))) (wks q5 (.initialized Cmp3.yN.cls :: Cmp3.site))
  have q3 : ∀ w ∈ Cmp3.tab :: CodL.tab :: words, w.before a s = true := fun w hw => (List.mem_cons.mp hw).elim (fun e => e ▸ h3) fun hw => (List.mem_cons.mp hw).elim (fun e => e ▸ hc) (h w)
  have h4 : New4.tab.before a s = true := unparts (wk q3 (.code New4.yN New4.yB 6 none)) (wks q3 (.initialized New4.yN.cls :: New4.site))
  have q4 : ∀ w ∈ New4.tab :: words, w.before a s = true := fun w hw => (List.mem_cons.mp hw).elim (fun e => e ▸ h4) (h w)
  exact unparts (wk q4 (.code New1.yN New1.yB 2 none)) (wks q4 (.initialized New1.yN.cls :: New1.site))
/-- the words ride from the start Z to the walk's own state -/
theorem moved {Z s : State} {a0 args : Array Value} (hZ : Z.Warmed39 s.vm) (hw : ∀ d ∈ words, d.before a0 Z = true) : ∀ d ∈ words, d.before args s = true := fun d hd => by
  have q := hw d hd
  have t : ∀ d ∈ words, d = .arrayClass .byte ∨ (d.onTables && d.keepsFace) = true := by decide +kernel
  rcases t d hd with rfl | t
  · exact RoadKit.mvA hZ q
  · exact RoadKit.mv hZ q t
/-- WHAT COMES BACK, over the tables of the start Z: h the heap at the call, h' behind it -/
def Q (Z : State) (x : Addr) (A : Cell) (h : Heap) (v : Option Value) (h' : Heap) (L : List Loc) : Prop := v = none ∧ (∀ y ∈ L, y.base = x) ∧ RoadKit.Keep h h' [x] ∧ h'.size = h.size + 1 ∧ RoadKit.Exa Z h' x ST ∧ RoadKit.Fld Z h' x ST "value" "[B" (.ref h.size) ∧ RoadKit.Fld Z h' x ST "coder" "B" (.int 0) ∧
  (∃ V : Cell, RoadKit.Arr Z h' h.size V .byte ∧ V.vm = .none ∧ Z.vm.findClass "[B" = some V.cls ∧ V.slots.size = A.slots.size ∧ ∀ j, j < A.slots.size → V.slots[j]? = some (.int (lo8 (cv A j)))) ∧
  ∀ (O n d : String) (w : Value), RoadKit.Fld Z h x O n d w → RoadKit.slotOf Z O n d ≠ RoadKit.slotOf Z ST "value" "[B" → RoadKit.slotOf Z O n d ≠ RoadKit.slotOf Z ST "coder" "B" → RoadKit.Fld Z h' x O n d w
/-- **new String(chars) AT A CALL, IN THE ROAD'S FORM**: for specialBack behind newO: x the fresh String, b the char[] with the cell A -/
theorem back {p : Program} {l : Launch} {e : Env} {R : Room} {s : State} {args : Array Value} {below : List Frame} {len W : Nat} {Z : State} {a0 : Array Value} {h : Heap} (hZ : Z.Warmed39 s.vm) (hw : ∀ d ∈ words, d.before a0 Z = true) {kI : Nat} (wi : (Jvm.Cond.instantiable ST kI).before a0 Z = true)
    {x b : Addr} {A : Cell} {z : Int32} {v0 c0 : Value} (E : RoadKit.Exa Z h x ST) (V : RoadKit.Fld Z h x ST "value" "[B" v0) (C : RoadKit.Fld Z h x ST "coder" "B" c0) (K : RoadKit.Arr Z h b A .char) (hty : Typed .char A) (S : RoadKit.Sta Z h ST "COMPACT_STRINGS" "Z" (.int z)) (hz : ¬ z = 0)
    (l0 : 0 < A.slots.size) (l2 : A.slots.size ≤ 536870912) (hp : ∀ i, i < A.slots.size → ¬ 255 < cv A i) (hfr : 4 ≤ R.frames) (hlo : W + 65 ≤ R.locals) :
    Back l R p e below s args New1.yN len W (fun P a => a = #[.ref x, .ref b] ∧ P.U.heap = h ∧ P.cells + 1 ≤ R.cells ∧ P.slots + A.slots.size ≤ R.slots)
      (fun P _ v B => ∃ L, Q Z x A h v B.U.heap L ∧ B.locs = P.locs ++ L ∧ B.cells = P.cells + 1 ∧ B.slots = P.slots + A.slots.size) := by
  intro m meth c P g ig mk a X hg hsize hdg hW hn hp'
  obtain ⟨rfl, rfl, r1, r2⟩ := hp'
  have al : Z.vm.Alike P.U.vm := hZ.alike.trans X.warmed.alike
  obtain ⟨D, cfV, kV, iV, fV, hD, gV, stV, knV, obV, asV, slV⟩ := id V
  obtain ⟨D', cfC, kC, iC, fC, hD', gC, stC, -, -, asC, slC⟩ := id C
  cases hD.symm.trans hD'
  obtain ⟨D2, kD, e1, e2, e3, e4, e5⟩ := id E
  cases hD.symm.trans e1
  obtain ⟨c2, k2, i1, i2, i3, -⟩ := Cond.instantiable_spec wi
  cases e2.symm.trans i1
  cases e3.symm.trans i2
  obtain ⟨kU, u1, u2⟩ := al.2.2 _ _ e3
  have hB : Blank ST x D P.U := ⟨hD, ⟨knV, fun q hq => by rw [hq] at obV; cases obV⟩, by rw [al.findClass]; exact e2, kU, u1, by rw [u2]; exact i3, by rw [u2]; exact e5 i3⟩
  have F1 : Found ST "value" "[B" fV P.U := ⟨SBG.found_only al ⟨cfV, kV, iV, gV⟩, stV⟩
  have F2 : Found ST "coder" "B" fC P.U := ⟨SBG.found_only al ⟨cfC, kC, iC, gC⟩, stC⟩
  have hA : Ch b A P.U := ⟨⟨K.1, State.isArrayOf_alike al K.2.1, K.2.2, by omega⟩, hty⟩
  have hS : StaticIs P.U ST "COMPACT_STRINGS" "Z" (.int z) := by
    obtain ⟨cfS, iS, kS, fS, st, cS, t1, t2, t3, t4, t5, t6, t7⟩ := S
    exact StaticIs.there (s := { Z with heap := P.U.heap }) ⟨cfS, iS, kS, fS, st, cS, t1, t2, t3, t4, t5, (fun q => by rw [q] at t6; cases t6), t7⟩ al rfl
  obtain ⟨v, B, X', ⟨⟨hv, E', V', q1, q2, q3, q4, q5, q6, q7, q8, q9, q10, q11⟩, hl, hc, hs⟩, st⟩ := New1.pays x D fV fC b A z (tab_of (moved hZ hw)) hfr hlo m meth c P g ig mk _ X hg hsize hdg hW hn ⟨r1, r2, rfl, hB, F1, F2, hA, hS, hz, l0, l2, hp⟩
  have al' : Z.vm.Alike B.U.vm := hZ.alike.trans X'.warmed.alike
  have hsz : E'.slots.size = D.slots.size := by
    obtain ⟨-, -, -, kB, w1, w2, w3⟩ := q1
    obtain ⟨kB', y1, y2⟩ := al'.2.2 _ _ e3
    rw [q2.2.1] at w1
    cases w1.symm.trans y1
    rw [w3, e5 i3, y2]
  refine ⟨v, B, X', ⟨_, ⟨hv, ?_, ⟨by omega, fun y cy hy hn' => q10 y cy (by simpa using hn') hy, fun y cy hy => ?_⟩, q11, ⟨E', _, q1.1, by rw [q2.2.1]; exact e2, by rw [q2.2.1]; exact e3, by rw [q2.1]; exact obV, fun _ => by rw [hsz]; exact e5 i3⟩,
    ⟨E', cfV, kV, iV, fV, q1.1, gV, stV, by rw [q2.1]; exact knV, by rw [q2.1]; exact obV, by rw [q2.2.1]; exact asV, q3⟩, ⟨E', cfC, kC, iC, fC, q1.1, gC, stC, by rw [q2.1]; exact knV, by rw [q2.1]; exact obV, by rw [q2.2.1]; exact asC, q4⟩,
    ⟨V', ⟨q5.1, State.isArrayOf_alike al'.symm q5.2.1, q5.2.2.1⟩, q6, by rw [← al'.findClass]; exact q7, q8, fun j hj => by have := q9 j hj; rwa [Nat.zero_add] at this⟩, fun O n d w F n1 n2 => ?_⟩, hl, hc, hs⟩, st⟩
  · intro y hy
    simp only [List.mem_cons, List.not_mem_nil, or_false] at hy
    rcases hy with rfl | rfl <;> rfl
  · by_cases q : y = x
    · subst q
      cases hD.symm.trans hy
      exact ⟨E', q1.1, q2.2.1, q2.1, hsz⟩
    · exact ⟨cy, q10 y cy q hy, rfl, rfl, rfl⟩
  · obtain ⟨D3, cf, k, i, f, g1, g2, g3, g4, g5, g6, g7⟩ := F
    cases hD.symm.trans g1
    simp only [RoadKit.slotOf, g2, gV, gC, Option.map_some, Option.getD_some] at n1 n2
    exact ⟨E', cf, k, i, f, q1.1, g2, g3, by rw [q2.1]; exact g4, by rw [q2.1]; exact g5, by rw [q2.2.1]; exact g6, by rw [q2.2.2 f.slot (by simp [n1, n2])]; exact g7⟩
end StrChars.Road
namespace StrChars.Road
open Jvm Sem ClassFile Op Lib Jvm.Stand Jvm.Free Jvm.Free.XT
/-- WHAT COMES BACK, the byte[] as a list of values -/
def QA (Z : State) (x : Addr) (zn : Int32) (cs : List Int32) (h : Heap) (v : Option Value) (h' : Heap) (L : List Loc) : Prop := v = none ∧ (∀ y ∈ L, y.base = x) ∧ RoadKit.Keep h h' [x] ∧ h'.size = h.size + 1 ∧ RoadKit.Exa Z h' x ST ∧ RoadKit.Fld Z h' x ST "value" "[B" (.ref h.size) ∧ RoadKit.Fld Z h' x ST "coder" "B" (.int 0) ∧
  (∃ kb, Z.vm.findClass "[B" = some kb ∧ RoadKit.Arv Z h' h.size kb .byte zn (cs.map fun c => .int (lo8 c)) (.int 0)) ∧
  ∀ (O n d : String) (w : Value), RoadKit.Fld Z h x O n d w → RoadKit.slotOf Z O n d ≠ RoadKit.slotOf Z ST "value" "[B" → RoadKit.slotOf Z O n d ≠ RoadKit.slotOf Z ST "coder" "B" → RoadKit.Fld Z h' x O n d w
/-- **new String(chars) AT A CALL, THE ARRAYS AS LISTS**: the char[] at b holds cs, not empty, no char above 255 -/
theorem backArv {p : Program} {l : Launch} {e : Env} {R : Room} {s : State} {args : Array Value} {below : List Frame} {len W : Nat} {Z : State} {a0 : Array Value} {h : Heap} (hZ : Z.Warmed39 s.vm) (hw : ∀ d ∈ words, d.before a0 Z = true) {kI : Nat} (wi : (Jvm.Cond.instantiable ST kI).before a0 Z = true)
    {x b : Addr} {k : ClassId} {zn z : Int32} {cs : List Int32} {dv v0 c0 : Value} (E : RoadKit.Exa Z h x ST) (V : RoadKit.Fld Z h x ST "value" "[B" v0) (C : RoadKit.Fld Z h x ST "coder" "B" c0) (K : RoadKit.Arv Z h b k .char zn (cs.map Value.int) dv) (S : RoadKit.Sta Z h ST "COMPACT_STRINGS" "Z" (.int z)) (hz : ¬ z = 0)
    (hlen : zn.toNatClampNeg = cs.length) (h0 : 0 < cs.length) (hbig : cs.length ≤ 536870912) (hall : ∀ c ∈ cs, ¬ 255 < c) (hfr : 4 ≤ R.frames) (hlo : W + 65 ≤ R.locals) :
    Back l R p e below s args New1.yN len W (fun P a => a = #[.ref x, .ref b] ∧ P.U.heap = h ∧ P.cells + 1 ≤ R.cells ∧ P.slots + cs.length ≤ R.slots)
      (fun P _ v B => ∃ L, QA Z x zn cs h v B.U.heap L ∧ B.locs = P.locs ++ L ∧ B.cells = P.cells + 1 ∧ B.slots = P.slots + cs.length) := by
  obtain ⟨A, K1, K2, K3, K4, K5, K6⟩ := K
  have e : A.slots.size = cs.length := K3.trans hlen
  have hat : ∀ (i : Nat) (hi : i < cs.length), A.slots[i]? = some (.int cs[i]) := fun i hi => by rw [K5 i (by omega)]; simp [List.getD_eq_getElem?_getD, hi]
  have hcv : ∀ (i : Nat) (hi : i < cs.length), cv A i = cs[i] := fun i hi => by unfold cv; rw [hat i hi]
  have hty : Typed .char A := fun i v hv => by
    have hi : i < A.slots.size := (Array.getElem?_eq_some_iff.mp hv).1
    have q := K5 i hi
    rw [hv] at q
    rw [Option.some.inj q]
    exact K6 i hi
  refine Back.mono (back hZ hw wi E V C K1 hty S hz (by omega) (by omega) (fun i hi => by rw [hcv i (by omega)]; exact hall _ (List.getElem_mem _)) hfr hlo) (fun P a hp => ⟨hp.1, hp.2.1, hp.2.2.1, by rw [e]; exact hp.2.2.2⟩) (fun P a v B hp hq => ?_)
  obtain ⟨L, ⟨q1, q2, q3, q4, q5, q6, q7, ⟨V', v1, v2, v3, v4, v5⟩, q9⟩, hl, hc, hs⟩ := hq
  refine ⟨L, ⟨q1, q2, q3, q4, q5, q6, q7, ⟨V'.cls, v3, V', v1, rfl, by rw [v4, e, hlen], K4, fun i hi => ?_, fun i hi => ?_⟩, q9⟩, hl, hc, by rw [hs, e]⟩
  · have hi' : i < cs.length := by omega
    rw [v5 i (by omega), hcv i hi']; simp [List.getD_eq_getElem?_getD, hi']
  · have hi' : i < cs.length := by omega
    simp only [List.getD_eq_getElem?_getD, List.getElem?_map, List.getElem?_eq_getElem hi', Option.map_some, Option.getD_some]
    exact fits_lo8 _
end StrChars.Road
namespace StrChars.Road
open Jvm Sem ClassFile Op Lib Jvm.Stand Jvm.Free Jvm.Free.XT
/-- WHAT COMES BACK, in the writer's own shape -/
def QV (Z : State) (x : Addr) (N : Int32) (bs : List Int32) (h : Heap) (n0 : Nat) (v : Option Value) (h' : Heap) (L : List Loc) : Prop := v = none ∧ RoadKit.Fr n0 L ∧ RoadKit.Keep h h' [x] ∧ RoadKit.Exa Z h' x ST ∧ RoadKit.Fld Z h' x ST "coder" "B" (.int 0) ∧
  ∃ (t : Addr) (kb : ClassId), n0 ≤ t ∧ h.size ≤ t ∧ ¬ t = x ∧ RoadKit.Fld Z h' x ST "value" "[B" (.ref t) ∧ RoadKit.Arv Z h' t kb .byte N (bs.map Value.int) (.int 0)
/-- **new String(chars) AT A CALL, FOR THE WRITER**: a char[] of n known ints, each 0 to 255 -/
theorem backV {p : Program} {l : Launch} {e : Env} {R : Room} {s : State} {args : Array Value} {below : List Frame} {len W : Nat} {Z : State} {a0 : Array Value} {h : Heap} (hZ : Z.Warmed39 s.vm) (hw : ∀ d ∈ words, d.before a0 Z = true) {kI : Nat} (wi : (Jvm.Cond.instantiable ST kI).before a0 Z = true)
    {x b : Addr} {kC : ClassId} {cs bs : List Int32} {d v0 c0 : Value} {z N : Int32} {n n0 : Nat} (hx0 : n0 ≤ x) (hh0 : n0 ≤ h.size) (E : RoadKit.Exa Z h x ST) (V : RoadKit.Fld Z h x ST "value" "[B" v0) (C : RoadKit.Fld Z h x ST "coder" "B" c0) (K : RoadKit.Arv Z h b kC .char N (cs.map Value.int) d) (S : RoadKit.Sta Z h ST "COMPACT_STRINGS" "Z" (.int z)) (hz : ¬ z = 0)
    (hn : cs.length = n) (hN : N = Int32.ofNat n) (l0 : 0 < n) (l2 : n ≤ 4000) (hp : ∀ c ∈ cs, ¬ c < 0 ∧ ¬ (255 : Int32) < c) (hb : bs = cs.map (fun c => c.toInt8.toInt32)) (hfr : 4 ≤ R.frames) (hlo : W + 65 ≤ R.locals) :
    Back l R p e below s args (⟨"java/lang/String", "<init>", "([C)V"⟩ : MethodName) len W (fun P a => a = #[.ref x, .ref b] ∧ P.U.heap = h ∧ P.cells + 1 ≤ R.cells ∧ P.slots + n ≤ R.slots)
      (fun P _ v B => ∃ L, QV Z x N bs h n0 v B.U.heap L ∧ B.locs = P.locs ++ L ∧ B.cells = P.cells + 1 ∧ B.slots = P.slots + n) := by
  subst hn hN hb
  refine Back.mono (backArv hZ hw wi E V C K S hz (n32 (by omega)) l0 (by omega) (fun c hc => (hp c hc).2) hfr hlo) (fun P a hp => hp) (fun P a v B hp hq => ?_)
  obtain ⟨L, ⟨q1, q2, q3, q4, q5, q6, q7, ⟨kb, v1, v2⟩, q9⟩, hl, hc, hs⟩ := hq
  exact ⟨L, ⟨q1, fun y hy => by rw [q2 y hy]; exact hx0, q3, q5, q7, h.size, kb, hh0, Nat.le_refl _, Nat.ne_of_gt E.lt, q6, by rw [List.map_map]; exact v2⟩, hl, hc, hs⟩
end StrChars.Road
end Jvm.Pilot.@@N@@
namespace Jvm.Pilot.@@N@@
open Jvm Jvm.ClassFile Sem Op Lib Jvm.Free Jvm.Stand Jvm.LawKit Jvm.RoadKit Bundle Jvm.Pilot.@@N@@.Jvm.D
/-- from the state A the run comes to the state B -/
def own_go (p : Program) (e : Env) (below : List Frame) (A B : State) : Prop := ∀ t, Steps p.tables e below B t → Steps p.tables e below A t
theorem own_wide {p : Program} {l : Launch} {e : Env} {R : Room} {s : State} {m : MethodId} {args : Array Value} {below : List Frame} {meth : Method} {c : Code} {T : State} {locs : List Loc} {cells slots k n : Nat} (X : Stand p l e R s m args below meth c T locs cells slots) (h1 : cells ≤ k) (h2 : slots ≤ n) : Stand p l e R s m args below meth c T locs k n :=
  { X with same := X.same.weaken (fun _ h _ => h) h1 h2 }
theorem own_hp {T : State} {h : Heap} {a : Addr} {c : Cell} (e : T.heap = h) (q : h[a]? = some c) : T.heap[a]? = some c := by rw [e]; exact q
theorem own_getD {α : Type} (f : α → Value) : ∀ (l : List α) (d : α) (k : Nat), (l.map f).getD k (f d) = f (l.getD k d)
  | [], _, _ => rfl
  | _ :: _, _, 0 => rfl
  | _ :: t, d, k + 1 => own_getD f t d k
theorem own_ch (x : Int32) : ¬ (nar .char ((x &&& (255 : Int32)).toUInt32.toUInt16.toUInt32.toInt32)) < 0 ∧ ¬ (255 : Int32) < (nar .char ((x &&& (255 : Int32)).toUInt32.toUInt16.toUInt32.toInt32)) := by
  rw [i2c_mask]
  show ¬ ((x &&& 255).toUInt32.toUInt16.toUInt32.toInt32) < 0 ∧ ¬ (255 : Int32) < ((x &&& 255).toUInt32.toUInt16.toUInt32.toInt32)
  rw [i2c_mask]
  have b := c_and x 255 (by decide)
  rw [Int32.lt_iff_toInt_lt, Int32.lt_iff_toInt_lt]
  have e0 : (0 : Int32).toInt = 0 := rfl
  have e1 : (255 : Int32).toInt = 255 := rfl
  omega
theorem own_nar (x : Int32) : nar .char ((x &&& (255 : Int32)).toUInt32.toUInt16.toUInt32.toInt32) = ((x &&& (255 : Int32)).toUInt32.toUInt16.toUInt32.toInt32) := by
  rw [i2c_mask]
  show ((x &&& 255).toUInt32.toUInt16.toUInt32.toInt32) = _
  rw [i2c_mask]
theorem own_sne {Z : State} {h : Heap} {C f d : String} {r1 r2 b1 b2 : Addr} {k1 k2 : ClassId} {ty : FieldType} {z1 z2 : Int32} {vs1 vs2 : List Value} {d1 d2 : Value} (F1 : Fld Z h r1 C f d (.ref b1)) (A1 : Arv Z h b1 k1 ty z1 vs1 d1) (F2 : Fld Z h r2 C f d (.ref b2)) (A2 : Arv Z h b2 k2 ty z2 vs2 d2) (hz : z1.toNatClampNeg ≠ z2.toNatClampNeg) : r1 ≠ r2 := by
  intro q
  subst q
  obtain ⟨cell, cf, k, i, g, p1, p2, -, -, -, -, p3⟩ := F1
  obtain ⟨cell', cf', k', i', g', q1, q2, -, -, -, -, q3⟩ := F2
  cases p1.symm.trans q1
  cases p2.symm.trans q2
  cases p3.symm.trans q3
  obtain ⟨c1, ⟨a1, -⟩, -, s1, -⟩ := A1
  obtain ⟨c2, ⟨a2, -⟩, -, s2, -⟩ := A2
  cases a1.symm.trans a2
  exact hz (s1.symm.trans s2)
section OwnBack
variable {p : Program} {l : Launch} {e : Env} {R : Room} {s : State} {args : Array Value} {below : List Frame} {Z : State} {a0 : Array Value} {h : Heap}
theorem own_backS {y : MethodName} {bytes : ByteArray} {maxL : Nat} {ret : Option FieldType} {rm : Room} {len W : Nat} {as' : Array Value} {J : Vm → Prop} {Q : Option Value → Heap → Vm → List Loc → Prop}
    (hM : MetFree l y (head1 [Jvm.Cond.code y bytes maxL ret] rm) (fun a U => a = as' ∧ Z.Warmed39 U.vm ∧ U.heap = h ∧ J U.vm) (fun _ _ _ _ _ => True) (fun _ U o U' => ∃ v L, o = .returned v ∧ Q v U'.heap U'.vm L ∧ ReturnedEndW U o U' L rm.cells rm.slots))
    (hZ : Z.Warmed39 s.vm) (wc : (Jvm.Cond.code y bytes maxL ret).before a0 Z = true) (wz : (Jvm.Cond.initialized y.cls).before a0 Z = true) (hf : rm.frames + 1 ≤ R.frames) (hl : W + (maxL + 11) + rm.locals ≤ R.locals) (hJ : ∀ vm, s.WarmedH vm → J vm) :
    BackS l R p e below s args y len W (fun A a => a = as' ∧ A.U.heap = h ∧ A.cells + rm.cells ≤ R.cells ∧ A.slots + rm.slots ≤ R.slots)
      (fun A _ v B => ∃ L, Q v B.U.heap B.U.vm L ∧ B.locs = A.locs ++ L ∧ B.cells = A.cells + rm.cells ∧ B.slots = A.slots + rm.slots) :=
  BackS.of_freeW (bytes := bytes) (maxL := maxL) (ret := ret) (E := fun _ _ o t L k n => k = rm.cells ∧ n = rm.slots ∧ ∃ v, o = .returned v ∧ Q v t.heap t.vm L) hM hf hl
    (fun m meth c A a Y hp => have hU : Z.Warmed39 A.U.vm := wtrans hZ Y.warmed
      ⟨by show (Jvm.Cond.and _ .tt).before a A.U = true; rw [Cond.before_and, mv hU wc]; rfl, mv hU wc, mv hU wz, hp.2.2.1, hp.2.2.2⟩)
    (fun m meth c A a g mk Y hp => ⟨hp.1, wtrans hZ Y.warmed, hp.2.1, hJ _ Y.warmed⟩) (fun _ _ _ _ _ _ _ _ _ => trivial)
    (fun _ _ _ _ ⟨v, L, h1, h2, h3⟩ => ⟨L, _, _, h3, rfl, rfl, v, h1, h2⟩)
    (fun m meth c A a g mk v t L k n Y hp _ _ ⟨e1, e2, v', e3, e4⟩ => by cases e3; subst e1 e2; exact ⟨L, e4, rfl, rfl, rfl⟩)
theorem own_backL {y : MethodName} {bytes : ByteArray} {maxL : Nat} {ret : Option FieldType} {rm : Room} {len W : Nat} {as' : Array Value} {J : Vm → Prop} {Q : Option Value → Heap → List Loc → Prop}
    (hM : MetFree l y (head1 [Jvm.Cond.code y bytes maxL ret] rm) (fun a U => a = as' ∧ Z.Warmed39 U.vm ∧ U.heap = h ∧ J U.vm) (fun _ _ _ _ _ => True) (fun _ U o U' => ∃ v L, o = .returned v ∧ Q v U'.heap L ∧ FrameEnd U o U' L rm.cells rm.slots))
    (hZ : Z.Warmed39 s.vm) (wc : (Jvm.Cond.code y bytes maxL ret).before a0 Z = true) (wz : (Jvm.Cond.initialized y.cls).before a0 Z = true) (hf : rm.frames + 1 ≤ R.frames) (hl : W + (maxL + 11) + rm.locals ≤ R.locals) (hJ : ∀ vm, s.WarmedH vm → J vm) :
    Back l R p e below s args y len W (fun A a => a = as' ∧ A.U.heap = h ∧ A.cells + rm.cells ≤ R.cells ∧ A.slots + rm.slots ≤ R.slots)
      (fun A _ v B => ∃ L, Q v B.U.heap L ∧ B.locs = A.locs ++ L ∧ B.cells = A.cells + rm.cells ∧ B.slots = A.slots + rm.slots) :=
  Back.of_free (bytes := bytes) (maxL := maxL) (ret := ret) (E := fun _ _ o t L k n => k = rm.cells ∧ n = rm.slots ∧ ∃ v, o = .returned v ∧ Q v t.heap L) hM hf hl
    (fun m meth c A a Y hp => have hU : Z.Warmed39 A.U.vm := wtrans hZ Y.warmed
      ⟨by show (Jvm.Cond.and _ .tt).before a A.U = true; rw [Cond.before_and, mv hU wc]; rfl, mv hU wc, mv hU wz, hp.2.2.1, hp.2.2.2⟩)
    (fun m meth c A a g mk Y hp => ⟨hp.1, wtrans hZ Y.warmed, hp.2.1, hJ _ Y.warmed⟩) (fun _ _ _ _ _ _ _ _ _ => trivial)
    (fun _ _ _ _ ⟨v, L, h1, h2, h3⟩ => ⟨L, _, _, h3, rfl, rfl, v, h1, h2⟩)
    (fun m meth c A a g mk v t L k n Y hp _ _ ⟨e1, e2, v', e3, e4⟩ => by cases e3; subst e1 e2; exact ⟨L, e4, rfl, rfl, rfl⟩)
theorem own_ib {Ts : List String} (I : IB Z s.vm Ts) : ∀ vm, s.WarmedH vm → IB Z vm Ts := fun vm hW => by
  obtain ⟨more, h1, h2⟩ := I
  exact ⟨more, hW.interned_eq.trans h1, h2⟩
theorem own_lit {own : String} {ix : Nat} {r : Addr} (L : Lit s own ix r) : ∀ vm, s.WarmedH vm → Lit (Z.setVm vm) own ix r := fun vm hW => Lit.stays (s := s) (vm0 := s.vm) L hW.wide
end OwnBack
theorem d1_0 : decode method_2_code 0 = .ok (.iconst 2, 1) := by decide +kernel
theorem d1_1 : decode method_2_code 1 = .ok (.newarray .char, 2) := by decide +kernel
theorem d1_3 : decode method_2_code 3 = .ok (.dup, 1) := by decide +kernel
theorem d1_4 : decode method_2_code 4 = .ok (.iconst 0, 1) := by decide +kernel
theorem d1_5 : decode method_2_code 5 = .ok (.iload_n 0, 1) := by decide +kernel
theorem d1_6 : decode method_2_code 6 = .ok (.sipush 255, 3) := by decide +kernel
theorem d1_9 : decode method_2_code 9 = .ok (.iand, 1) := by decide +kernel
theorem d1_10 : decode method_2_code 10 = .ok (.i2c, 1) := by decide +kernel
theorem d1_11 : decode method_2_code 11 = .ok (.castore, 1) := by decide +kernel
theorem d1_12 : decode method_2_code 12 = .ok (.dup, 1) := by decide +kernel
theorem d1_13 : decode method_2_code 13 = .ok (.iconst 1, 1) := by decide +kernel
theorem d1_14 : decode method_2_code 14 = .ok (.iload_n 0, 1) := by decide +kernel
theorem d1_15 : decode method_2_code 15 = .ok (.bipush 8, 2) := by decide +kernel
theorem d1_17 : decode method_2_code 17 = .ok (.iushr, 1) := by decide +kernel
theorem d1_18 : decode method_2_code 18 = .ok (.sipush 255, 3) := by decide +kernel
theorem d1_21 : decode method_2_code 21 = .ok (.iand, 1) := by decide +kernel
theorem d1_22 : decode method_2_code 22 = .ok (.i2c, 1) := by decide +kernel
theorem d1_23 : decode method_2_code 23 = .ok (.castore, 1) := by decide +kernel
theorem d1_24 : decode method_2_code 24 = .ok (.astore_n 1, 1) := by decide +kernel
theorem d1_25 : decode method_2_code 25 = .ok (.new 7, 3) := by decide +kernel
theorem d1_28 : decode method_2_code 28 = .ok (.dup, 1) := by decide +kernel
theorem d1_29 : decode method_2_code 29 = .ok (.aload_n 1, 1) := by decide +kernel
theorem own_pd0 : parseMethodDescriptor "([C)V" = some ⟨[(.array .char)], none⟩ := by decide +kernel
theorem d1_30 : decode method_2_code 30 = .ok (.invokespecial 9, 3) := by decide +kernel
theorem d1_33 : decode method_2_code 33 = .ok (.areturn, 1) := by decide +kernel
theorem own_pn_io_subjectwire_auth_CredentialsToStringPinLaw : plainName "io/subjectwire/auth/CredentialsToStringPinLaw" = true := by first | (simp [plainName, overriddenIn]; done) | decide +kernel
theorem ef_1 (m : MethodId) (x0 : Int32) : entryFrame m #[(.int x0)] 2 = mkF m 0 #[.val (.int x0), .unset] [] := by first | (simp [entryFrame, mkF, argsToLocals, Value.category]; done) | rfl
def Q1 (Z : State) (p1 : Int32) (G1 : Int32) (h0 : Heap) (n0 : Nat) (v : Option Value) (h : Heap) (L : List Loc) : Prop := ∃ r : Addr, v = some (.ref r) ∧ Fr n0 L ∧ Keep h0 h []
set_option maxRecDepth 65536 in
set_option maxHeartbeats 40000000 in
theorem rm1 (l : Launch) (Z : State) (a0 : Array Value) (hw : ∀ d ∈ tables_1, d.before a0 Z = true) (ws : List Jvm.Cond) (p1 : Int32) (G1 : Int32) (h0 : Heap) (n0 : Nat) (Z0 : n0 ≤ h0.size) (O2 : Sta Z Z.heap "java/lang/String" "COMPACT_STRINGS" "Z" (.int G1)) (P5 : ¬ (G1 = (0 : Int32))) (O0 : Old Z n0 h0) :
    MetFree l (⟨"io/subjectwire/auth/CredentialsToStringPinLaw", "drawn", "(I)Ljava/lang/String;"⟩ : MethodName) (head1 (Jvm.Cond.code (⟨"io/subjectwire/auth/CredentialsToStringPinLaw", "drawn", "(I)Ljava/lang/String;"⟩ : MethodName) method_2_code 2 (some (.object "java/lang/String")) :: ws) ({ frames := 4, cells := 3, slots := 8, locals := 66 } : Room)) (fun aax UU => aax = #[(.int p1)] ∧ Z.Warmed39 UU.vm ∧ UU.heap = h0) (fun _ _ _ _ _ => True) (fun _ UU oux UU' => ∃ rvx Lrx, oux = .returned rvx ∧ Q1 Z p1 G1 h0 n0 rvx UU'.heap Lrx ∧ FrameEnd UU oux UU' Lrx ({ frames := 4, cells := 3, slots := 8, locals := 66 } : Room).cells ({ frames := 4, cells := 3, slots := 8, locals := 66 } : Room).slots) := by
  refine MetFree.of_bodySF (plainFor_of_name own_pn_io_subjectwire_auth_CredentialsToStringPinLaw) hisR ?_
  intro p e s m args below meth c s₁ Bd hml0 hP hK
  obtain ⟨rfl, hZ, hh⟩ := hP
  have hx := Bd.exec
  have hby := Bd.bytes
  have hml : c.maxLocals = 2 := hml0
  have hown : s.vm.findClass "io/subjectwire/auth/CredentialsToStringPinLaw" = some m.cls := findClass_of_methodNamed Bd.named
  have hnm := (name_of_methodNamed Bd.named Bd.method).1
  have X0 : Stand p l e ({ frames := 4, cells := 3, slots := 8, locals := 66 } : Room) s m #[(.int p1)] below meth c s₁ [] 0 0 := Stand.of_body Bd
  have e0 : s₁.heap = h0 := by rw [← hh, Bd.state]; rfl
  have N0 := Fr.nil n0
  have p0 : own_go p e below (s₁.setTop (entryFrame m #[(.int p1)] 2)) (s₁.setTop (mkF m 0 #[.val (.int p1), .unset] [])) := fun ttx ktx => castTop (ef_1 m p1) ktx
  obtain ⟨T1, h1, k1, X1, e1, E1, A1, st1⟩ := newP X0 hx hZ (hw _ (List.mem_of_getElem? (i := 0) rfl)) e0 (g := (mkF m 1 #[.val (.int p1), .unset] [(.int (2 : Int32))])) rfl (hb hby d1_1) rfl (by decide) (cap := 2) (by decide) (by decide) (by decide) (by decide)
  obtain ⟨b1, g1⟩ : ∃ z, z = h0.size := ⟨_, rfl⟩
  rw [← g1] at A1 st1
  have g_b1 : n0 ≤ b1 := Nat.le_trans Z0 (Nat.le_of_eq g1.symm)
  have sz_b1 : h0.size ≤ b1 := Nat.le_trans (Keep.refl h0 []).1 (Nat.le_of_eq g1.symm)
  have Z1 : n0 ≤ h1.size := Nat.le_trans Z0 E1.1
  have O1 := O0.ext E1
  have K1 : Keep h0 h1 [] := (Keep.refl h0 []).ext E1
  have V1 : Arv Z h1 b1 k1 .char (2 : Int32) [(.int (0 : Int32)), (.int (0 : Int32))] (.int (0 : Int32)) := (Arv.new A1 (by decide)).pad (pad_rep [] (.int (0 : Int32)) 2)
  obtain ⟨cl2, Ar2, q2, S2, M2, H2, G2⟩ := id V1
  have hin2 : ¬ ((0 : Int32) < 0 ∨ cl2.slots.size ≤ ((0 : Int32)).toNatClampNeg) := inb_of S2 ⟨by decide, by decide⟩
  obtain ⟨T3, h3, X3, e3, W3, st3⟩ := stC X1 hx hZ e1 Ar2 (j := (0 : Int32)) hin2 (g := (mkF m 11 #[.val (.int p1), .unset] [(.int ((p1 &&& (255 : Int32)).toUInt32.toUInt16.toUInt32.toInt32)), (.int (0 : Int32)), (.ref b1), (.ref b1)])) rfl rfl (hb hby d1_11)
  have Z3 : n0 ≤ h3.size := Nat.le_trans Z1 (Nat.le_of_eq W3.size.symm)
  have O3 := O1.wr W3 g_b1
  have K3 : Keep h0 h3 [] := K1.wr W3 (Or.inr sz_b1)
  have N3 := Fr.snoc X3 N0 g_b1
  have V3 : Arv Z h3 b1 k1 .char (2 : Int32) [(.int (nar .char ((p1 &&& (255 : Int32)).toUInt32.toUInt16.toUInt32.toInt32))), (.int (0 : Int32))] (.int (0 : Int32)) := Arv.set Ar2 q2 S2 M2 H2 G2 (fits_nar_char _) W3 0 rfl (Nat.le_of_ble_eq_true rfl)
  have go4 : own_go p e below (s₁.setTop (entryFrame m #[(.int p1)] 2)) (T3.setTop (mkF m 21 #[.val (.int p1), .unset] [(.int (255 : Int32)), (.int ((p1.toUInt32 >>> ((8 : Int32) &&& 31).toUInt32).toInt32)), (.int (1 : Int32)), (.ref b1), (.ref b1)])) := by
    intro ttx ktx
    refine p0 ttx ?_
    show Steps p.tables e below (s₁.setTop (mkF m 0 #[.val (.int p1), .unset] [])) _
    refine XS.iconst X0.here hx rfl (hb hby d1_0) ?_
    show Steps p.tables e below (s₁.setTop (mkF m 1 #[.val (.int p1), .unset] [(.int (2 : Int32))])) _
    refine st1 _ ?_
    show Steps p.tables e below (T1.setTop (mkF m 3 #[.val (.int p1), .unset] [(.ref b1)])) _
    refine XS.dup X1.here hx rfl (hb hby d1_3) rfl rfl ?_
    show Steps p.tables e below (T1.setTop (mkF m 4 #[.val (.int p1), .unset] [(.ref b1), (.ref b1)])) _
    refine XS.iconst X1.here hx rfl (hb hby d1_4) ?_
    show Steps p.tables e below (T1.setTop (mkF m 5 #[.val (.int p1), .unset] [(.int (0 : Int32)), (.ref b1), (.ref b1)])) _
    refine XS.iloadN X1.here hx rfl (hb hby d1_5) rfl ?_
    show Steps p.tables e below (T1.setTop (mkF m 6 #[.val (.int p1), .unset] [(.int p1), (.int (0 : Int32)), (.ref b1), (.ref b1)])) _
    refine XS.sipush X1.here hx rfl (hb hby d1_6) ?_
    show Steps p.tables e below (T1.setTop (mkF m 9 #[.val (.int p1), .unset] [(.int (255 : Int32)), (.int p1), (.int (0 : Int32)), (.ref b1), (.ref b1)])) _
    refine XS.iand X1.here hx rfl (hb hby d1_9) rfl ?_
    show Steps p.tables e below (T1.setTop (mkF m 10 #[.val (.int p1), .unset] [(.int (p1 &&& (255 : Int32))), (.int (0 : Int32)), (.ref b1), (.ref b1)])) _
    refine XS.i2c X1.here hx rfl (hb hby d1_10) rfl ?_
    show Steps p.tables e below (T1.setTop (mkF m 11 #[.val (.int p1), .unset] [(.int ((p1 &&& (255 : Int32)).toUInt32.toUInt16.toUInt32.toInt32)), (.int (0 : Int32)), (.ref b1), (.ref b1)])) _
    refine st3 _ ?_
    show Steps p.tables e below (T3.setTop (mkF m 12 #[.val (.int p1), .unset] [(.ref b1)])) _
    refine XS.dup X3.here hx rfl (hb hby d1_12) rfl rfl ?_
    show Steps p.tables e below (T3.setTop (mkF m 13 #[.val (.int p1), .unset] [(.ref b1), (.ref b1)])) _
    refine XS.iconst X3.here hx rfl (hb hby d1_13) ?_
    show Steps p.tables e below (T3.setTop (mkF m 14 #[.val (.int p1), .unset] [(.int (1 : Int32)), (.ref b1), (.ref b1)])) _
    refine XS.iloadN X3.here hx rfl (hb hby d1_14) rfl ?_
    show Steps p.tables e below (T3.setTop (mkF m 15 #[.val (.int p1), .unset] [(.int p1), (.int (1 : Int32)), (.ref b1), (.ref b1)])) _
    refine XS.bipush X3.here hx rfl (hb hby d1_15) ?_
    show Steps p.tables e below (T3.setTop (mkF m 17 #[.val (.int p1), .unset] [(.int (8 : Int32)), (.int p1), (.int (1 : Int32)), (.ref b1), (.ref b1)])) _
    refine XS.iushr X3.here hx rfl (hb hby d1_17) rfl ?_
    show Steps p.tables e below (T3.setTop (mkF m 18 #[.val (.int p1), .unset] [(.int ((p1.toUInt32 >>> ((8 : Int32) &&& 31).toUInt32).toInt32)), (.int (1 : Int32)), (.ref b1), (.ref b1)])) _
    refine XS.sipush X3.here hx rfl (hb hby d1_18) ?_
    exact ktx
  obtain ⟨cl5, Ar5, q5, S5, M5, H5, G5⟩ := id V3
  have hin5 : ¬ ((1 : Int32) < 0 ∨ cl5.slots.size ≤ ((1 : Int32)).toNatClampNeg) := inb_of S5 ⟨by decide, by decide⟩
  obtain ⟨T6, h6, X6, e6, W6, st6⟩ := stC X3 hx hZ e3 Ar5 (j := (1 : Int32)) hin5 (g := (mkF m 23 #[.val (.int p1), .unset] [(.int ((((p1.toUInt32 >>> ((8 : Int32) &&& 31).toUInt32).toInt32) &&& (255 : Int32)).toUInt32.toUInt16.toUInt32.toInt32)), (.int (1 : Int32)), (.ref b1), (.ref b1)])) rfl rfl (hb hby d1_23)
  have Z6 : n0 ≤ h6.size := Nat.le_trans Z3 (Nat.le_of_eq W6.size.symm)
  have O6 := O3.wr W6 g_b1
  have K6 : Keep h0 h6 [] := K3.wr W6 (Or.inr sz_b1)
  have N6 := Fr.snoc X6 N3 g_b1
  have V6 : Arv Z h6 b1 k1 .char (2 : Int32) [(.int (nar .char ((p1 &&& (255 : Int32)).toUInt32.toUInt16.toUInt32.toInt32))), (.int (nar .char ((((p1.toUInt32 >>> ((8 : Int32) &&& 31).toUInt32).toInt32) &&& (255 : Int32)).toUInt32.toUInt16.toUInt32.toInt32)))] (.int (0 : Int32)) := Arv.set Ar5 q5 S5 M5 H5 G5 (fits_nar_char _) W6 1 rfl (Nat.le_of_ble_eq_true rfl)
  obtain ⟨T7, h7, X7, e7, E7, A7, D7, -, st7⟩ := newO X6 hx hZ hown (hw _ (List.mem_of_getElem? (i := 5) rfl)) (hw _ (List.mem_of_getElem? (i := 6) rfl)) (hw _ (List.mem_of_getElem? (i := 7) rfl)) e6 (g := (mkF m 25 #[.val (.int p1), .val (.ref b1)] [])) rfl (hb hby d1_25) (by decide) (by decide)
  obtain ⟨b7, g7⟩ : ∃ z, z = h6.size := ⟨_, rfl⟩
  rw [← g7] at A7 D7 st7
  have ne8 : b1 ≠ b7 := Nat.ne_of_lt (Nat.lt_of_lt_of_le V6.lt (Nat.le_of_eq g7.symm))
  have g_b7 : n0 ≤ b7 := Nat.le_trans Z6 (Nat.le_of_eq g7.symm)
  have sz_b7 : h0.size ≤ b7 := Nat.le_trans K6.1 (Nat.le_of_eq g7.symm)
  have Z7 : n0 ≤ h7.size := Nat.le_trans Z6 E7.1
  have O7 := O6.ext E7
  have K7 : Keep h0 h7 [] := K6.ext E7
  have F7_coder : Fld Z h7 b7 "java/lang/String" "coder" "B" (.int (0 : Int32)) := D7 (Or.inr (hw _ (List.mem_of_getElem? (i := 31) rfl))) (ty := .byte) (by decide)
  have F7_value : Fld Z h7 b7 "java/lang/String" "value" "[B" .null := D7 (Or.inr (hw _ (List.mem_of_getElem? (i := 33) rfl))) (ty := (.array .byte)) (by decide)
  have f10 := (V6.ext E7)
  obtain ⟨_, _, ⟨T9, L9, k9, n9⟩, -, X9, ⟨Lc9, hQ9, l9, y9, z9⟩, st9⟩ := X7.specialBack hx (y := (⟨"java/lang/String", "<init>", "([C)V"⟩ : MethodName)) rfl hown (mvT hZ (hw _ (List.mem_of_getElem? (i := 8) rfl))) (mvT hZ (hw _ (List.mem_of_getElem? (i := 9) rfl))) (mvT hZ (hw _ (List.mem_of_getElem? (i := 10) rfl))) (by decide) (StrChars.Road.backV (W := 1) hZ (fun d hd => hw d ((by decide +kernel : ∀ d ∈ StrChars.Road.words, d ∈ tables_1) d hd)) (kI := 4) (hw _ (List.mem_of_getElem? (i := 6) rfl)) (cs := ([(nar .char ((p1 &&& (255 : Int32)).toUInt32.toUInt16.toUInt32.toInt32)), (nar .char ((((p1.toUInt32 >>> ((8 : Int32) &&& 31).toUInt32).toInt32) &&& (255 : Int32)).toUInt32.toUInt16.toUInt32.toInt32))] : List Int32)) (bs := ([(nar .char ((p1 &&& (255 : Int32)).toUInt32.toUInt16.toUInt32.toInt32)), (nar .char ((((p1.toUInt32 >>> ((8 : Int32) &&& 31).toUInt32).toInt32) &&& (255 : Int32)).toUInt32.toUInt16.toUInt32.toInt32))] : List Int32).map (fun c => c.toInt8.toInt32)) (n := 2) g_b7 Z7 A7 F7_value F7_coder f10 (O2.ext O7.2) P5 rfl rfl (by decide) (by decide) (by intro c hc; simp only [List.mem_cons, List.not_mem_nil, or_false] at hc; rcases hc with rfl | rfl <;> exact own_ch _) rfl (by decide) (by decide)) (g := (mkF m 30 #[.val (.int p1), .val (.ref b1)] [(.ref b1), (.ref b7), (.ref b7)])) rfl (by rw [hml]; rfl) (Steps.refl _) (a := b7) (argsL := [(.ref b1)]) (rest := [(.ref b7)]) (lenOf own_pd0 rfl) rfl (by show 2 * 0 + _ ≤ _; exact Nat.le_of_eq rfl) (hb hby d1_30) (fun _ _ => ⟨rfl, e7, (by decide : 2 + 1 ≤ _), (by decide : 6 + 2 ≤ _)⟩)
  dsimp only [Pt.U, Pt.locs, Pt.cells, Pt.slots] at X9 l9 y9 z9 st9 hQ9
  subst l9 y9 z9
  obtain ⟨rfl, Nq9, Kq9, Eq9, Cq9, tv9, kb9, gt9, st9q, nt9, Vq9, Aq9⟩ := hQ9
  have N9 := Fr.app N6 Nq9
  have ne11 : b1 ≠ tv9 := Nat.ne_of_lt (Nat.lt_of_lt_of_le f10.lt st9q)
  have g_tv9 := gt9
  have Z9 : n0 ≤ T9.heap.size := Nat.le_trans Z7 Kq9.1
  have O9 := O7.keep Kq9 (allS g_b7 all0)
  have K9 : Keep h0 T9.heap [] := K7.trans Kq9 (allS (Or.inr sz_b7) all0)
  have go12 : own_go p e below (s₁.setTop (entryFrame m #[(.int p1)] 2)) (T9.setTop (mkF m 33 #[.val (.int p1), .val (.ref b1)] [(.ref b7)])) := by
    intro ttx ktx
    refine go4 ttx ?_
    show Steps p.tables e below (T3.setTop (mkF m 21 #[.val (.int p1), .unset] [(.int (255 : Int32)), (.int ((p1.toUInt32 >>> ((8 : Int32) &&& 31).toUInt32).toInt32)), (.int (1 : Int32)), (.ref b1), (.ref b1)])) _
    refine XS.iand X3.here hx rfl (hb hby d1_21) rfl ?_
    show Steps p.tables e below (T3.setTop (mkF m 22 #[.val (.int p1), .unset] [(.int (((p1.toUInt32 >>> ((8 : Int32) &&& 31).toUInt32).toInt32) &&& (255 : Int32))), (.int (1 : Int32)), (.ref b1), (.ref b1)])) _
    refine XS.i2c X3.here hx rfl (hb hby d1_22) rfl ?_
    show Steps p.tables e below (T3.setTop (mkF m 23 #[.val (.int p1), .unset] [(.int ((((p1.toUInt32 >>> ((8 : Int32) &&& 31).toUInt32).toInt32) &&& (255 : Int32)).toUInt32.toUInt16.toUInt32.toInt32)), (.int (1 : Int32)), (.ref b1), (.ref b1)])) _
    refine st6 _ ?_
    show Steps p.tables e below (T6.setTop (mkF m 24 #[.val (.int p1), .unset] [(.ref b1)])) _
    refine XS.astoreN X6.here hx rfl (hb hby d1_24) rfl rfl (l' := #[.val (.int p1), .val (.ref b1)]) rfl ?_
    show Steps p.tables e below (T6.setTop (mkF m 25 #[.val (.int p1), .val (.ref b1)] [])) _
    refine st7 _ ?_
    show Steps p.tables e below (T7.setTop (mkF m 28 #[.val (.int p1), .val (.ref b1)] [(.ref b7)])) _
    refine XS.dup X7.here hx rfl (hb hby d1_28) rfl rfl ?_
    show Steps p.tables e below (T7.setTop (mkF m 29 #[.val (.int p1), .val (.ref b1)] [(.ref b7), (.ref b7)])) _
    refine XS.aloadN X7.here hx rfl (hb hby d1_29) rfl rfl ?_
    show Steps p.tables e below (T7.setTop (mkF m 30 #[.val (.int p1), .val (.ref b1)] [(.ref b1), (.ref b7), (.ref b7)])) _
    refine st9.trans ?_
    exact ktx
  obtain ⟨fs, hr, hrun, hended, hW, hsame⟩ := X9.leave (v := some (.ref b7)) (fun h => by rw [Bd.returns] at h; cases h)
  refine ⟨_, _, go12 _ ?_, hrun, hended, _, _, rfl, ?_, ⟨_, rfl⟩, hW, hsame.mono (by decide) (by decide)⟩
  · exact retOut X9 hx Bd.returns rfl (Or.inr (Or.inr (Or.inr (Or.inr ⟨rfl, rfl, rfl⟩)))) (hb hby d1_33) hr
  · show Q1 Z p1 G1 h0 n0 _ T9.heap _
    exact ⟨_, rfl, N9, K9⟩
theorem d8_0 : decode prog_32_method_1_code 0 = .ok (.aload_n 0, 1) := by decide +kernel
theorem d8_1 : decode prog_32_method_1_code 1 = .ok (.invokespecial 1, 3) := by decide +kernel
theorem d8_4 : decode prog_32_method_1_code 4 = .ok (.aload_n 0, 1) := by decide +kernel
theorem d8_5 : decode prog_32_method_1_code 5 = .ok (.aload_n 1, 1) := by decide +kernel
theorem d8_6 : decode prog_32_method_1_code 6 = .ok (.putfield 7, 3) := by decide +kernel
theorem d8_9 : decode prog_32_method_1_code 9 = .ok (.aload_n 0, 1) := by decide +kernel
theorem d8_10 : decode prog_32_method_1_code 10 = .ok (.aload_n 2, 1) := by decide +kernel
theorem d8_11 : decode prog_32_method_1_code 11 = .ok (.putfield 13, 3) := by decide +kernel
theorem d8_14 : decode prog_32_method_1_code 14 = .ok (.return_, 1) := by decide +kernel
theorem own_pn_io_subjectwire_auth_Credentials : plainName "io/subjectwire/auth/Credentials" = true := by first | (simp [plainName, overriddenIn]; done) | decide +kernel
theorem ef_8r (m : MethodId) (x0 : Addr) (x1 : Addr) (x2 : Addr) : entryFrame m #[(.ref x0), (.ref x1), (.ref x2)] 3 = mkF m 0 #[.val (.ref x0), .val (.ref x1), .val (.ref x2)] [] := by first | (simp [entryFrame, mkF, argsToLocals, Value.category]; done) | rfl
def Q8r (Z : State) (a1 : Addr) (a2 : Addr) (a3 : Addr) (h0 : Heap) (n0 : Nat) (v : Option Value) (h : Heap) (L : List Loc) : Prop := v = none ∧ Fr n0 L ∧ Keep h0 h [a1] ∧ Exa Z h a1 "io/subjectwire/auth/Credentials" ∧ Fld Z h a1 "io/subjectwire/auth/Credentials" "jwt" "Ljava/lang/String;" (.ref a2) ∧ Fld Z h a1 "io/subjectwire/auth/Credentials" "seed" "[C" (.ref a3)
set_option maxRecDepth 65536 in
set_option maxHeartbeats 40000000 in
theorem rm8r (l : Launch) (Z : State) (a0 : Array Value) (hw : ∀ d ∈ tables_1, d.before a0 Z = true) (ws : List Jvm.Cond) (a1 : Addr) (a2 : Addr) (a3 : Addr) (h0 : Heap) (n0 : Nat) (Z0 : n0 ≤ h0.size) (E_a1 : Exa Z h0 a1 "io/subjectwire/auth/Credentials") (g_a1 : n0 ≤ a1) (F_jwt : Fld Z h0 a1 "io/subjectwire/auth/Credentials" "jwt" "Ljava/lang/String;" .null) (F_seed : Fld Z h0 a1 "io/subjectwire/auth/Credentials" "seed" "[C" .null) :
    MetFree l (⟨"io/subjectwire/auth/Credentials", "<init>", "(Ljava/lang/String;[C)V"⟩ : MethodName) (head1 (Jvm.Cond.code (⟨"io/subjectwire/auth/Credentials", "<init>", "(Ljava/lang/String;[C)V"⟩ : MethodName) prog_32_method_1_code 3 none :: ws) ({ frames := 1, cells := 0, slots := 0, locals := 12 } : Room)) (fun aax UU => aax = #[(.ref a1), (.ref a2), (.ref a3)] ∧ Z.Warmed39 UU.vm ∧ UU.heap = h0) (fun _ _ _ _ _ => True) (fun _ UU oux UU' => ∃ rvx Lrx, oux = .returned rvx ∧ Q8r Z a1 a2 a3 h0 n0 rvx UU'.heap Lrx ∧ FrameEnd UU oux UU' Lrx ({ frames := 1, cells := 0, slots := 0, locals := 12 } : Room).cells ({ frames := 1, cells := 0, slots := 0, locals := 12 } : Room).slots) := by
  refine MetFree.of_bodySF (plainFor_of_name own_pn_io_subjectwire_auth_Credentials) hisR ?_
  intro p e s m args below meth c s₁ Bd hml0 hP hK
  obtain ⟨rfl, hZ, hh⟩ := hP
  have hx := Bd.exec
  have hby := Bd.bytes
  have hml : c.maxLocals = 3 := hml0
  have hown : s.vm.findClass "io/subjectwire/auth/Credentials" = some m.cls := findClass_of_methodNamed Bd.named
  have hnm := (name_of_methodNamed Bd.named Bd.method).1
  have X0 : Stand p l e ({ frames := 1, cells := 0, slots := 0, locals := 12 } : Room) s m #[(.ref a1), (.ref a2), (.ref a3)] below meth c s₁ [] 0 0 := Stand.of_body Bd
  have e0 : s₁.heap = h0 := by rw [← hh, Bd.state]; rfl
  have N0 := Fr.nil n0
  have p0 : own_go p e below (s₁.setTop (entryFrame m #[(.ref a1), (.ref a2), (.ref a3)] 3)) (s₁.setTop (mkF m 0 #[.val (.ref a1), .val (.ref a2), .val (.ref a3)] [])) := fun ttx ktx => castTop (ef_8r m a1 a2 a3) ktx
  obtain ⟨T1, X1, e1, st1⟩ := initO X0 hx hZ hown (hw _ (List.mem_of_getElem? (i := 40) rfl)) (hw _ (List.mem_of_getElem? (i := 16) rfl)) (hw _ (List.mem_of_getElem? (i := 17) rfl)) e0 (g := (mkF m 1 #[.val (.ref a1), .val (.ref a2), .val (.ref a3)] [(.ref a1)])) rfl (by rw [hml]; rfl) rfl (hb hby d8_1) (by decide) (W := 0) (by show 2 * 0 + _ ≤ _; exact Nat.le_of_eq rfl) (by decide)
  obtain ⟨T2, h2, X2, e2, W2, st2⟩ := putF X1 hx hZ hown (host := "") (Or.inl (hw _ (List.mem_of_getElem? (i := 41) rfl))) Via.refl e1 F_jwt E_a1 (Or.inr ⟨(hw _ (List.mem_of_getElem? (i := 42) rfl)), rfl, hnm⟩) (hw _ (List.mem_of_getElem? (i := 35) rfl)) (ty := (.object "java/lang/String")) (by decide) rfl rfl (g := (mkF m 6 #[.val (.ref a1), .val (.ref a2), .val (.ref a3)] [(.ref a2), (.ref a1)])) rfl rfl (hb hby d8_6)
  have Z2 : n0 ≤ h2.size := Nat.le_trans Z0 (Nat.le_of_eq W2.size.symm)
  have K2 : Keep h0 h2 [a1] := (Keep.refl h0 [a1]).wr W2 (Or.inl (List.mem_of_getElem? (i := 0) rfl))
  have N2 := Fr.snoc X2 N0 g_a1
  have Fw2 := F_jwt.same W2
  have f3 := (F_seed.other W2 (Or.inr (slot_ne (Or.inr (hw _ (List.mem_of_getElem? (i := 44) rfl))) (Or.inr (hw _ (List.mem_of_getElem? (i := 42) rfl))) (by decide) (t := (.array .char)) (t' := (.object "java/lang/String")) (by decide) (by decide))))
  have f4 := (E_a1.wr W2)
  obtain ⟨T5, h5, X5, e5, W5, st5⟩ := putF X2 hx hZ hown (host := "") (Or.inl (hw _ (List.mem_of_getElem? (i := 43) rfl))) Via.refl e2 f3 f4 (Or.inr ⟨(hw _ (List.mem_of_getElem? (i := 44) rfl)), rfl, hnm⟩) (hw _ (List.mem_of_getElem? (i := 35) rfl)) (ty := (.array .char)) (by decide) rfl rfl (g := (mkF m 11 #[.val (.ref a1), .val (.ref a2), .val (.ref a3)] [(.ref a3), (.ref a1)])) rfl rfl (hb hby d8_11)
  have Z5 : n0 ≤ h5.size := Nat.le_trans Z2 (Nat.le_of_eq W5.size.symm)
  have K5 : Keep h0 h5 [a1] := K2.wr W5 (Or.inl (List.mem_of_getElem? (i := 0) rfl))
  have N5 := Fr.snoc X5 N2 g_a1
  have Fw5 := f3.same W5
  have go6 : own_go p e below (s₁.setTop (entryFrame m #[(.ref a1), (.ref a2), (.ref a3)] 3)) (T5.setTop (mkF m 14 #[.val (.ref a1), .val (.ref a2), .val (.ref a3)] [])) := by
    intro ttx ktx
    refine p0 ttx ?_
    show Steps p.tables e below (s₁.setTop (mkF m 0 #[.val (.ref a1), .val (.ref a2), .val (.ref a3)] [])) _
    refine XS.aloadN X0.here hx rfl (hb hby d8_0) rfl rfl ?_
    show Steps p.tables e below (s₁.setTop (mkF m 1 #[.val (.ref a1), .val (.ref a2), .val (.ref a3)] [(.ref a1)])) _
    refine st1 _ ?_
    show Steps p.tables e below (T1.setTop (mkF m 4 #[.val (.ref a1), .val (.ref a2), .val (.ref a3)] [])) _
    refine XS.aloadN X1.here hx rfl (hb hby d8_4) rfl rfl ?_
    show Steps p.tables e below (T1.setTop (mkF m 5 #[.val (.ref a1), .val (.ref a2), .val (.ref a3)] [(.ref a1)])) _
    refine XS.aloadN X1.here hx rfl (hb hby d8_5) rfl rfl ?_
    show Steps p.tables e below (T1.setTop (mkF m 6 #[.val (.ref a1), .val (.ref a2), .val (.ref a3)] [(.ref a2), (.ref a1)])) _
    refine st2 _ ?_
    show Steps p.tables e below (T2.setTop (mkF m 9 #[.val (.ref a1), .val (.ref a2), .val (.ref a3)] [])) _
    refine XS.aloadN X2.here hx rfl (hb hby d8_9) rfl rfl ?_
    show Steps p.tables e below (T2.setTop (mkF m 10 #[.val (.ref a1), .val (.ref a2), .val (.ref a3)] [(.ref a1)])) _
    refine XS.aloadN X2.here hx rfl (hb hby d8_10) rfl rfl ?_
    show Steps p.tables e below (T2.setTop (mkF m 11 #[.val (.ref a1), .val (.ref a2), .val (.ref a3)] [(.ref a3), (.ref a1)])) _
    refine st5 _ ?_
    exact ktx
  obtain ⟨fs, hr, hrun, hended, hW, hsame⟩ := X5.leave (v := none) (fun _ => rfl)
  refine ⟨_, _, go6 _ ?_, hrun, hended, _, _, rfl, ?_, ⟨_, rfl⟩, hW, hsame.mono (by decide) (by decide)⟩
  · exact X5.returnOut hx Bd.returns (hb hby d8_14) hr
  · show Q8r Z a1 a2 a3 h0 n0 _ T5.heap _
    rw [e5]
    have f7 := (f4.wr W5)
    have f8 := (Fw2.other W5 (Or.inr (slot_ne (Or.inr (hw _ (List.mem_of_getElem? (i := 42) rfl))) (Or.inr (hw _ (List.mem_of_getElem? (i := 44) rfl))) (by decide) (t := (.object "java/lang/String")) (t' := (.array .char)) (by decide) (by decide))))
    exact ⟨rfl, N5, K5, f7, f8, Fw5⟩
theorem ef_8n (m : MethodId) (x0 : Addr) (x2 : Addr) : entryFrame m #[(.ref x0), .null, (.ref x2)] 3 = mkF m 0 #[.val (.ref x0), .val .null, .val (.ref x2)] [] := by first | (simp [entryFrame, mkF, argsToLocals, Value.category]; done) | rfl
def Q8n (Z : State) (a1 : Addr) (a3 : Addr) (h0 : Heap) (n0 : Nat) (v : Option Value) (h : Heap) (L : List Loc) : Prop := v = none ∧ Fr n0 L ∧ Keep h0 h [a1] ∧ Exa Z h a1 "io/subjectwire/auth/Credentials" ∧ Fld Z h a1 "io/subjectwire/auth/Credentials" "jwt" "Ljava/lang/String;" .null ∧ Fld Z h a1 "io/subjectwire/auth/Credentials" "seed" "[C" (.ref a3)
set_option maxRecDepth 65536 in
set_option maxHeartbeats 40000000 in
theorem rm8n (l : Launch) (Z : State) (a0 : Array Value) (hw : ∀ d ∈ tables_1, d.before a0 Z = true) (ws : List Jvm.Cond) (a1 : Addr) (a3 : Addr) (h0 : Heap) (n0 : Nat) (Z0 : n0 ≤ h0.size) (E_a1 : Exa Z h0 a1 "io/subjectwire/auth/Credentials") (g_a1 : n0 ≤ a1) (F_jwt : Fld Z h0 a1 "io/subjectwire/auth/Credentials" "jwt" "Ljava/lang/String;" .null) (F_seed : Fld Z h0 a1 "io/subjectwire/auth/Credentials" "seed" "[C" .null) :
    MetFree l (⟨"io/subjectwire/auth/Credentials", "<init>", "(Ljava/lang/String;[C)V"⟩ : MethodName) (head1 (Jvm.Cond.code (⟨"io/subjectwire/auth/Credentials", "<init>", "(Ljava/lang/String;[C)V"⟩ : MethodName) prog_32_method_1_code 3 none :: ws) ({ frames := 1, cells := 0, slots := 0, locals := 12 } : Room)) (fun aax UU => aax = #[(.ref a1), .null, (.ref a3)] ∧ Z.Warmed39 UU.vm ∧ UU.heap = h0) (fun _ _ _ _ _ => True) (fun _ UU oux UU' => ∃ rvx Lrx, oux = .returned rvx ∧ Q8n Z a1 a3 h0 n0 rvx UU'.heap Lrx ∧ FrameEnd UU oux UU' Lrx ({ frames := 1, cells := 0, slots := 0, locals := 12 } : Room).cells ({ frames := 1, cells := 0, slots := 0, locals := 12 } : Room).slots) := by
  refine MetFree.of_bodySF (plainFor_of_name own_pn_io_subjectwire_auth_Credentials) hisR ?_
  intro p e s m args below meth c s₁ Bd hml0 hP hK
  obtain ⟨rfl, hZ, hh⟩ := hP
  have hx := Bd.exec
  have hby := Bd.bytes
  have hml : c.maxLocals = 3 := hml0
  have hown : s.vm.findClass "io/subjectwire/auth/Credentials" = some m.cls := findClass_of_methodNamed Bd.named
  have hnm := (name_of_methodNamed Bd.named Bd.method).1
  have X0 : Stand p l e ({ frames := 1, cells := 0, slots := 0, locals := 12 } : Room) s m #[(.ref a1), .null, (.ref a3)] below meth c s₁ [] 0 0 := Stand.of_body Bd
  have e0 : s₁.heap = h0 := by rw [← hh, Bd.state]; rfl
  have N0 := Fr.nil n0
  have p0 : own_go p e below (s₁.setTop (entryFrame m #[(.ref a1), .null, (.ref a3)] 3)) (s₁.setTop (mkF m 0 #[.val (.ref a1), .val .null, .val (.ref a3)] [])) := fun ttx ktx => castTop (ef_8n m a1 a3) ktx
  obtain ⟨T1, X1, e1, st1⟩ := initO X0 hx hZ hown (hw _ (List.mem_of_getElem? (i := 40) rfl)) (hw _ (List.mem_of_getElem? (i := 16) rfl)) (hw _ (List.mem_of_getElem? (i := 17) rfl)) e0 (g := (mkF m 1 #[.val (.ref a1), .val .null, .val (.ref a3)] [(.ref a1)])) rfl (by rw [hml]; rfl) rfl (hb hby d8_1) (by decide) (W := 0) (by show 2 * 0 + _ ≤ _; exact Nat.le_of_eq rfl) (by decide)
  obtain ⟨T2, h2, X2, e2, W2, st2⟩ := putF X1 hx hZ hown (host := "") (Or.inl (hw _ (List.mem_of_getElem? (i := 41) rfl))) Via.refl e1 F_jwt E_a1 (Or.inr ⟨(hw _ (List.mem_of_getElem? (i := 42) rfl)), rfl, hnm⟩) (hw _ (List.mem_of_getElem? (i := 35) rfl)) (ty := (.object "java/lang/String")) (by decide) rfl rfl (g := (mkF m 6 #[.val (.ref a1), .val .null, .val (.ref a3)] [.null, (.ref a1)])) rfl rfl (hb hby d8_6)
  have Z2 : n0 ≤ h2.size := Nat.le_trans Z0 (Nat.le_of_eq W2.size.symm)
  have K2 : Keep h0 h2 [a1] := (Keep.refl h0 [a1]).wr W2 (Or.inl (List.mem_of_getElem? (i := 0) rfl))
  have N2 := Fr.snoc X2 N0 g_a1
  have Fw2 := F_jwt.same W2
  have f3 := (F_seed.other W2 (Or.inr (slot_ne (Or.inr (hw _ (List.mem_of_getElem? (i := 44) rfl))) (Or.inr (hw _ (List.mem_of_getElem? (i := 42) rfl))) (by decide) (t := (.array .char)) (t' := (.object "java/lang/String")) (by decide) (by decide))))
  have f4 := (E_a1.wr W2)
  obtain ⟨T5, h5, X5, e5, W5, st5⟩ := putF X2 hx hZ hown (host := "") (Or.inl (hw _ (List.mem_of_getElem? (i := 43) rfl))) Via.refl e2 f3 f4 (Or.inr ⟨(hw _ (List.mem_of_getElem? (i := 44) rfl)), rfl, hnm⟩) (hw _ (List.mem_of_getElem? (i := 35) rfl)) (ty := (.array .char)) (by decide) rfl rfl (g := (mkF m 11 #[.val (.ref a1), .val .null, .val (.ref a3)] [(.ref a3), (.ref a1)])) rfl rfl (hb hby d8_11)
  have Z5 : n0 ≤ h5.size := Nat.le_trans Z2 (Nat.le_of_eq W5.size.symm)
  have K5 : Keep h0 h5 [a1] := K2.wr W5 (Or.inl (List.mem_of_getElem? (i := 0) rfl))
  have N5 := Fr.snoc X5 N2 g_a1
  have Fw5 := f3.same W5
  have go6 : own_go p e below (s₁.setTop (entryFrame m #[(.ref a1), .null, (.ref a3)] 3)) (T5.setTop (mkF m 14 #[.val (.ref a1), .val .null, .val (.ref a3)] [])) := by
    intro ttx ktx
    refine p0 ttx ?_
    show Steps p.tables e below (s₁.setTop (mkF m 0 #[.val (.ref a1), .val .null, .val (.ref a3)] [])) _
    refine XS.aloadN X0.here hx rfl (hb hby d8_0) rfl rfl ?_
    show Steps p.tables e below (s₁.setTop (mkF m 1 #[.val (.ref a1), .val .null, .val (.ref a3)] [(.ref a1)])) _
    refine st1 _ ?_
    show Steps p.tables e below (T1.setTop (mkF m 4 #[.val (.ref a1), .val .null, .val (.ref a3)] [])) _
    refine XS.aloadN X1.here hx rfl (hb hby d8_4) rfl rfl ?_
    show Steps p.tables e below (T1.setTop (mkF m 5 #[.val (.ref a1), .val .null, .val (.ref a3)] [(.ref a1)])) _
    refine XS.aloadN X1.here hx rfl (hb hby d8_5) rfl rfl ?_
    show Steps p.tables e below (T1.setTop (mkF m 6 #[.val (.ref a1), .val .null, .val (.ref a3)] [.null, (.ref a1)])) _
    refine st2 _ ?_
    show Steps p.tables e below (T2.setTop (mkF m 9 #[.val (.ref a1), .val .null, .val (.ref a3)] [])) _
    refine XS.aloadN X2.here hx rfl (hb hby d8_9) rfl rfl ?_
    show Steps p.tables e below (T2.setTop (mkF m 10 #[.val (.ref a1), .val .null, .val (.ref a3)] [(.ref a1)])) _
    refine XS.aloadN X2.here hx rfl (hb hby d8_10) rfl rfl ?_
    show Steps p.tables e below (T2.setTop (mkF m 11 #[.val (.ref a1), .val .null, .val (.ref a3)] [(.ref a3), (.ref a1)])) _
    refine st5 _ ?_
    exact ktx
  obtain ⟨fs, hr, hrun, hended, hW, hsame⟩ := X5.leave (v := none) (fun _ => rfl)
  refine ⟨_, _, go6 _ ?_, hrun, hended, _, _, rfl, ?_, ⟨_, rfl⟩, hW, hsame.mono (by decide) (by decide)⟩
  · exact X5.returnOut hx Bd.returns (hb hby d8_14) hr
  · show Q8n Z a1 a3 h0 n0 _ T5.heap _
    rw [e5]
    have f7 := (f4.wr W5)
    have f8 := (Fw2.other W5 (Or.inr (slot_ne (Or.inr (hw _ (List.mem_of_getElem? (i := 42) rfl))) (Or.inr (hw _ (List.mem_of_getElem? (i := 44) rfl))) (by decide) (t := (.object "java/lang/String")) (t' := (.array .char)) (by decide) (by decide))))
    exact ⟨rfl, N5, K5, f7, f8, Fw5⟩
theorem d9_0 : decode prog_32_method_6_code 0 = .ok (.aload_n 0, 1) := by decide +kernel
theorem d9_1 : decode prog_32_method_6_code 1 = .ok (.getfield 7, 3) := by decide +kernel
theorem d9_4 : decode prog_32_method_6_code 4 = .ok (.ifnonnull 8, 3) := by decide +kernel
theorem d9_7 : decode prog_32_method_6_code 7 = .ok (.ldc 86, 2) := by decide +kernel
theorem d9_9 : decode prog_32_method_6_code 9 = .ok (.goto 5, 3) := by decide +kernel
theorem d9_14 : decode prog_32_method_6_code 14 = .ok (.areturn, 1) := by decide +kernel
theorem ef_9f86 (m : MethodId) (x0 : Addr) : entryFrame m #[(.ref x0)] 1 = mkF m 0 #[.val (.ref x0)] [] := by first | (simp [entryFrame, mkF, argsToLocals, Value.category]; done) | rfl
def Q9f86 (Z : State) (a1 : Addr) (Ts : List String) (h0 : Heap) (n0 : Nat) (v : Option Value) (h : Heap) (vm : Vm) (L : List Loc) : Prop := ∃ (r b : Addr) (k : ClassId) (vs : List Value), v = some (.ref r) ∧ Fr n0 L ∧ Ext h0 h ∧ Exa Z h r "java/lang/String" ∧ Fld Z h r "java/lang/String" "coder" "B" (.int (0 : Int32)) ∧ Fld Z h r "java/lang/String" "value" "[B" (.ref b) ∧ Arv Z h b k .byte (22 : Int32) vs (.int (0 : Int32)) ∧ IB Z vm ("Credentials[nkey seed]" :: Ts) ∧ Lit (Z.setVm vm) "io/subjectwire/auth/Credentials" 86 r
set_option maxRecDepth 65536 in
set_option maxHeartbeats 40000000 in
theorem rm9f86 (l : Launch) (Z : State) (a0 : Array Value) (hw : ∀ d ∈ tables_1, d.before a0 Z = true) (ws : List Jvm.Cond) (a1 : Addr) (Ts : List String) (h0 : Heap) (n0 : Nat) (Z0 : n0 ≤ h0.size) (F_jwt : Fld Z h0 a1 "io/subjectwire/auth/Credentials" "jwt" "Ljava/lang/String;" .null) (O0 : Old Z n0 h0) (hnot : "Credentials[nkey seed]" ∉ Ts) (hch : Jvm.Lit.constHeld Z "io/subjectwire/auth/Credentials" 86) (hcw : Jvm.Lit.compactW.before a0 Z = true) :
    MetFree l (⟨"io/subjectwire/auth/Credentials", "toString", "()Ljava/lang/String;"⟩ : MethodName) (head1 (Jvm.Cond.code (⟨"io/subjectwire/auth/Credentials", "toString", "()Ljava/lang/String;"⟩ : MethodName) prog_32_method_6_code 1 (some (.object "java/lang/String")) :: ws) ({ frames := 0, cells := 2, slots := 92, locals := 0 } : Room)) (fun aax UU => aax = #[(.ref a1)] ∧ Z.Warmed39 UU.vm ∧ UU.heap = h0 ∧ IB Z UU.vm Ts) (fun _ _ _ _ _ => True) (fun _ UU oux UU' => ∃ rvx Lrx, oux = .returned rvx ∧ Q9f86 Z a1 Ts h0 n0 rvx UU'.heap UU'.vm Lrx ∧ ReturnedEndW UU oux UU' Lrx ({ frames := 0, cells := 2, slots := 92, locals := 0 } : Room).cells ({ frames := 0, cells := 2, slots := 92, locals := 0 } : Room).slots) := by
  refine MetFree.of_bodySF (plainFor_of_name own_pn_io_subjectwire_auth_Credentials) hisR ?_
  intro p e s m args below meth c s₁ Bd hml0 hP hK
  obtain ⟨rfl, hZ, hh, hJ⟩ := hP
  have hx := Bd.exec
  have hby := Bd.bytes
  have hml : c.maxLocals = 1 := hml0
  have hown : s.vm.findClass "io/subjectwire/auth/Credentials" = some m.cls := findClass_of_methodNamed Bd.named
  have hnm := (name_of_methodNamed Bd.named Bd.method).1
  have X0 : Stand p l e ({ frames := 0, cells := 2, slots := 92, locals := 0 } : Room) s m #[(.ref a1)] below meth c s₁ [] 0 0 := Stand.of_body Bd
  have e0 : s₁.heap = h0 := by rw [← hh, Bd.state]; rfl
  have N0 := Fr.nil n0
  have p0 : own_go p e below (s₁.setTop (entryFrame m #[(.ref a1)] 1)) (s₁.setTop (mkF m 0 #[.val (.ref a1)] [])) := fun ttx ktx => castTop (ef_9f86 m a1) ktx
  obtain ⟨T1, X1, e1, st1⟩ := getF X0 hx hZ hown (host := "") (Or.inl (hw _ (List.mem_of_getElem? (i := 41) rfl))) Via.refl e0 F_jwt (g := (mkF m 1 #[.val (.ref a1)] [(.ref a1)])) rfl rfl (hb hby d9_1)
  obtain ⟨rl, T9, h9, k9, b9, kb9, X9, e9, E9, hS9, hk9, hZ9, hown9, A9, C9, V9, Ar9, lr9, lb9, I9, L9, st9⟩ := ldcSVL (s := s) (vm0 := s.vm) (Ts := Ts) X1 hx hZ hown (hw _ (List.mem_of_getElem? (i := 50) rfl)) (fun d hd => hw d ((by decide +kernel : ∀ d ∈ Bundle.stringAtoms, d ∈ tables_1) d hd)) e1 ((State.WarmedH.refl s).since 0) (Nat.zero_le _) (Fr.nil _) (fun b cl q => by rw [hh]; exact O0.2.2 b cl q) hJ hnot hch hcw (vs := _) (z := (22 : Int32)) ⟨by decide, rfl⟩ (by decide) (by decide) (g := (mkF m 7 #[.val (.ref a1)] [])) rfl (hb hby d9_7) (n := 88) (by decide) (by decide) (by decide) (by decide)
  have go2 : own_go p e below (s₁.setTop (entryFrame m #[(.ref a1)] 1)) (T9.setTop (mkF m 14 #[.val (.ref a1)] [(.ref rl)])) := by
    intro ttx ktx
    refine p0 ttx ?_
    show Steps p.tables e below (s₁.setTop (mkF m 0 #[.val (.ref a1)] [])) _
    refine XS.aloadN X0.here hx rfl (hb hby d9_0) rfl rfl ?_
    show Steps p.tables e below (s₁.setTop (mkF m 1 #[.val (.ref a1)] [(.ref a1)])) _
    refine st1 _ ?_
    show Steps p.tables e below (T1.setTop (mkF m 4 #[.val (.ref a1)] [.null])) _
    refine XS.ifnonnullNo X1.here hx rfl (hb hby d9_4) rfl ?_
    show Steps p.tables e below (T1.setTop (mkF m 7 #[.val (.ref a1)] [])) _
    refine st9 _ ?_
    show Steps p.tables e below (T9.setTop (mkF m 9 #[.val (.ref a1)] [(.ref rl)])) _
    refine XS.goto X9.here hx rfl (pc0 := 9) (pc' := 14) rfl (hb hby d9_9) (by decide) (by decide) ?_
    exact ktx
  have eLL : T9.heap = h9 := e9
  obtain ⟨fs, hr, hrun, hended, hend⟩ := X9.leaveW hS9 (by rw [eLL]; exact hk9) (v := some (.ref rl)) (fun h => by rw [Bd.returns] at h; cases h)
  refine ⟨_, _, go2 _ ?_, hrun, hended, _, _, rfl, ?_, hend.1, hend.2.1, hend.2.2.1, hend.2.2.2.mono (by decide) (by decide)⟩
  · exact retOut X9 hx Bd.returns rfl (Or.inr (Or.inr (Or.inr (Or.inr ⟨rfl, rfl, rfl⟩)))) (hb hby d9_14) hr
  · show Q9f86 Z a1 Ts h0 n0 _ T9.heap T9.vm _
    rw [e9]
    exact ⟨rl, b9, kb9, _, rfl, N0, E9, A9, C9, V9, Ar9, I9, L9⟩
theorem ef_9a86 (m : MethodId) (x0 : Addr) : entryFrame m #[(.ref x0)] 1 = mkF m 0 #[.val (.ref x0)] [] := by first | (simp [entryFrame, mkF, argsToLocals, Value.category]; done) | rfl
def Q9a86 (Z : State) (a1 : Addr) (rl : Addr) (h0 : Heap) (n0 : Nat) (v : Option Value) (h : Heap) (L : List Loc) : Prop := v = some (.ref rl) ∧ Fr n0 L ∧ h = h0
set_option maxRecDepth 65536 in
set_option maxHeartbeats 40000000 in
theorem rm9a86 (l : Launch) (Z : State) (a0 : Array Value) (hw : ∀ d ∈ tables_1, d.before a0 Z = true) (ws : List Jvm.Cond) (a1 : Addr) (rl : Addr) (h0 : Heap) (n0 : Nat) (Z0 : n0 ≤ h0.size) (F_jwt : Fld Z h0 a1 "io/subjectwire/auth/Credentials" "jwt" "Ljava/lang/String;" .null) :
    MetFree l (⟨"io/subjectwire/auth/Credentials", "toString", "()Ljava/lang/String;"⟩ : MethodName) (head1 (Jvm.Cond.code (⟨"io/subjectwire/auth/Credentials", "toString", "()Ljava/lang/String;"⟩ : MethodName) prog_32_method_6_code 1 (some (.object "java/lang/String")) :: ws) ({ frames := 0, cells := 0, slots := 0, locals := 0 } : Room)) (fun aax UU => aax = #[(.ref a1)] ∧ Z.Warmed39 UU.vm ∧ UU.heap = h0 ∧ Lit (Z.setVm UU.vm) "io/subjectwire/auth/Credentials" 86 rl) (fun _ _ _ _ _ => True) (fun _ UU oux UU' => ∃ rvx Lrx, oux = .returned rvx ∧ Q9a86 Z a1 rl h0 n0 rvx UU'.heap Lrx ∧ FrameEnd UU oux UU' Lrx ({ frames := 0, cells := 0, slots := 0, locals := 0 } : Room).cells ({ frames := 0, cells := 0, slots := 0, locals := 0 } : Room).slots) := by
  refine MetFree.of_bodySF (plainFor_of_name own_pn_io_subjectwire_auth_Credentials) hisR ?_
  intro p e s m args below meth c s₁ Bd hml0 hP hK
  obtain ⟨rfl, hZ, hh, hJ⟩ := hP
  have hx := Bd.exec
  have hby := Bd.bytes
  have hml : c.maxLocals = 1 := hml0
  have hown : s.vm.findClass "io/subjectwire/auth/Credentials" = some m.cls := findClass_of_methodNamed Bd.named
  have hnm := (name_of_methodNamed Bd.named Bd.method).1
  have X0 : Stand p l e ({ frames := 0, cells := 0, slots := 0, locals := 0 } : Room) s m #[(.ref a1)] below meth c s₁ [] 0 0 := Stand.of_body Bd
  have e0 : s₁.heap = h0 := by rw [← hh, Bd.state]; rfl
  have N0 := Fr.nil n0
  have p0 : own_go p e below (s₁.setTop (entryFrame m #[(.ref a1)] 1)) (s₁.setTop (mkF m 0 #[.val (.ref a1)] [])) := fun ttx ktx => castTop (ef_9a86 m a1) ktx
  obtain ⟨T1, X1, e1, st1⟩ := getF X0 hx hZ hown (host := "") (Or.inl (hw _ (List.mem_of_getElem? (i := 41) rfl))) Via.refl e0 F_jwt (g := (mkF m 1 #[.val (.ref a1)] [(.ref a1)])) rfl rfl (hb hby d9_1)
  have st9 := ldcAgain (s := s) (vm0 := s.vm) X1 hx hZ hown (hw _ (List.mem_of_getElem? (i := 50) rfl)) (a := rl) hJ (g := (mkF m 7 #[.val (.ref a1)] [])) rfl (hb hby d9_7)
  have go2 : own_go p e below (s₁.setTop (entryFrame m #[(.ref a1)] 1)) (T1.setTop (mkF m 14 #[.val (.ref a1)] [(.ref rl)])) := by
    intro ttx ktx
    refine p0 ttx ?_
    show Steps p.tables e below (s₁.setTop (mkF m 0 #[.val (.ref a1)] [])) _
    refine XS.aloadN X0.here hx rfl (hb hby d9_0) rfl rfl ?_
    show Steps p.tables e below (s₁.setTop (mkF m 1 #[.val (.ref a1)] [(.ref a1)])) _
    refine st1 _ ?_
    show Steps p.tables e below (T1.setTop (mkF m 4 #[.val (.ref a1)] [.null])) _
    refine XS.ifnonnullNo X1.here hx rfl (hb hby d9_4) rfl ?_
    show Steps p.tables e below (T1.setTop (mkF m 7 #[.val (.ref a1)] [])) _
    refine st9 _ ?_
    show Steps p.tables e below (T1.setTop (mkF m 9 #[.val (.ref a1)] [(.ref rl)])) _
    refine XS.goto X1.here hx rfl (pc0 := 9) (pc' := 14) rfl (hb hby d9_9) (by decide) (by decide) ?_
    exact ktx
  obtain ⟨fs, hr, hrun, hended, hW, hsame⟩ := X1.leave (v := some (.ref rl)) (fun h => by rw [Bd.returns] at h; cases h)
  refine ⟨_, _, go2 _ ?_, hrun, hended, _, _, rfl, ?_, ⟨_, rfl⟩, hW, hsame.mono (by decide) (by decide)⟩
  · exact retOut X1 hx Bd.returns rfl (Or.inr (Or.inr (Or.inr (Or.inr ⟨rfl, rfl, rfl⟩)))) (hb hby d9_14) hr
  · show Q9a86 Z a1 rl h0 n0 _ T1.heap _
    rw [e1]
    exact ⟨rfl, N0, rfl⟩
theorem d9_12 : decode prog_32_method_6_code 12 = .ok (.ldc 88, 2) := by decide +kernel
theorem ef_9f88 (m : MethodId) (x0 : Addr) : entryFrame m #[(.ref x0)] 1 = mkF m 0 #[.val (.ref x0)] [] := by first | (simp [entryFrame, mkF, argsToLocals, Value.category]; done) | rfl
def Q9f88 (Z : State) (a1 : Addr) (jw : Addr) (Ts : List String) (h0 : Heap) (n0 : Nat) (v : Option Value) (h : Heap) (vm : Vm) (L : List Loc) : Prop := ∃ (r b : Addr) (k : ClassId) (vs : List Value), v = some (.ref r) ∧ Fr n0 L ∧ Ext h0 h ∧ Exa Z h r "java/lang/String" ∧ Fld Z h r "java/lang/String" "coder" "B" (.int (0 : Int32)) ∧ Fld Z h r "java/lang/String" "value" "[B" (.ref b) ∧ Arv Z h b k .byte (32 : Int32) vs (.int (0 : Int32)) ∧ IB Z vm ("Credentials[user JWT, nkey seed]" :: Ts) ∧ Lit (Z.setVm vm) "io/subjectwire/auth/Credentials" 88 r
set_option maxRecDepth 65536 in
set_option maxHeartbeats 40000000 in
theorem rm9f88 (l : Launch) (Z : State) (a0 : Array Value) (hw : ∀ d ∈ tables_1, d.before a0 Z = true) (ws : List Jvm.Cond) (a1 : Addr) (jw : Addr) (Ts : List String) (h0 : Heap) (n0 : Nat) (Z0 : n0 ≤ h0.size) (F_jwt : Fld Z h0 a1 "io/subjectwire/auth/Credentials" "jwt" "Ljava/lang/String;" (.ref jw)) (O0 : Old Z n0 h0) (hnot : "Credentials[user JWT, nkey seed]" ∉ Ts) (hch : Jvm.Lit.constHeld Z "io/subjectwire/auth/Credentials" 88) (hcw : Jvm.Lit.compactW.before a0 Z = true) :
    MetFree l (⟨"io/subjectwire/auth/Credentials", "toString", "()Ljava/lang/String;"⟩ : MethodName) (head1 (Jvm.Cond.code (⟨"io/subjectwire/auth/Credentials", "toString", "()Ljava/lang/String;"⟩ : MethodName) prog_32_method_6_code 1 (some (.object "java/lang/String")) :: ws) ({ frames := 0, cells := 2, slots := 132, locals := 0 } : Room)) (fun aax UU => aax = #[(.ref a1)] ∧ Z.Warmed39 UU.vm ∧ UU.heap = h0 ∧ IB Z UU.vm Ts) (fun _ _ _ _ _ => True) (fun _ UU oux UU' => ∃ rvx Lrx, oux = .returned rvx ∧ Q9f88 Z a1 jw Ts h0 n0 rvx UU'.heap UU'.vm Lrx ∧ ReturnedEndW UU oux UU' Lrx ({ frames := 0, cells := 2, slots := 132, locals := 0 } : Room).cells ({ frames := 0, cells := 2, slots := 132, locals := 0 } : Room).slots) := by
  refine MetFree.of_bodySF (plainFor_of_name own_pn_io_subjectwire_auth_Credentials) hisR ?_
  intro p e s m args below meth c s₁ Bd hml0 hP hK
  obtain ⟨rfl, hZ, hh, hJ⟩ := hP
  have hx := Bd.exec
  have hby := Bd.bytes
  have hml : c.maxLocals = 1 := hml0
  have hown : s.vm.findClass "io/subjectwire/auth/Credentials" = some m.cls := findClass_of_methodNamed Bd.named
  have hnm := (name_of_methodNamed Bd.named Bd.method).1
  have X0 : Stand p l e ({ frames := 0, cells := 2, slots := 132, locals := 0 } : Room) s m #[(.ref a1)] below meth c s₁ [] 0 0 := Stand.of_body Bd
  have e0 : s₁.heap = h0 := by rw [← hh, Bd.state]; rfl
  have N0 := Fr.nil n0
  have p0 : own_go p e below (s₁.setTop (entryFrame m #[(.ref a1)] 1)) (s₁.setTop (mkF m 0 #[.val (.ref a1)] [])) := fun ttx ktx => castTop (ef_9f88 m a1) ktx
  obtain ⟨T1, X1, e1, st1⟩ := getF X0 hx hZ hown (host := "") (Or.inl (hw _ (List.mem_of_getElem? (i := 41) rfl))) Via.refl e0 F_jwt (g := (mkF m 1 #[.val (.ref a1)] [(.ref a1)])) rfl rfl (hb hby d9_1)
  obtain ⟨rl, T9, h9, k9, b9, kb9, X9, e9, E9, hS9, hk9, hZ9, hown9, A9, C9, V9, Ar9, lr9, lb9, I9, L9, st9⟩ := ldcSVL (s := s) (vm0 := s.vm) (Ts := Ts) X1 hx hZ hown (hw _ (List.mem_of_getElem? (i := 53) rfl)) (fun d hd => hw d ((by decide +kernel : ∀ d ∈ Bundle.stringAtoms, d ∈ tables_1) d hd)) e1 ((State.WarmedH.refl s).since 0) (Nat.zero_le _) (Fr.nil _) (fun b cl q => by rw [hh]; exact O0.2.2 b cl q) hJ hnot hch hcw (vs := _) (z := (32 : Int32)) ⟨by decide, rfl⟩ (by decide) (by decide) (g := (mkF m 12 #[.val (.ref a1)] [])) rfl (hb hby d9_12) (n := 128) (by decide) (by decide) (by decide) (by decide)
  have go2 : own_go p e below (s₁.setTop (entryFrame m #[(.ref a1)] 1)) (T9.setTop (mkF m 14 #[.val (.ref a1)] [(.ref rl)])) := by
    intro ttx ktx
    refine p0 ttx ?_
    show Steps p.tables e below (s₁.setTop (mkF m 0 #[.val (.ref a1)] [])) _
    refine XS.aloadN X0.here hx rfl (hb hby d9_0) rfl rfl ?_
    show Steps p.tables e below (s₁.setTop (mkF m 1 #[.val (.ref a1)] [(.ref a1)])) _
    refine st1 _ ?_
    show Steps p.tables e below (T1.setTop (mkF m 4 #[.val (.ref a1)] [(.ref jw)])) _
    refine XS.ifnonnullYes X1.here hx rfl (pc0 := 4) (pc' := 12) rfl (hb hby d9_4) rfl (by decide) (by decide) ?_
    show Steps p.tables e below (T1.setTop (mkF m 12 #[.val (.ref a1)] [])) _
    refine st9 _ ?_
    exact ktx
  have eLL : T9.heap = h9 := e9
  obtain ⟨fs, hr, hrun, hended, hend⟩ := X9.leaveW hS9 (by rw [eLL]; exact hk9) (v := some (.ref rl)) (fun h => by rw [Bd.returns] at h; cases h)
  refine ⟨_, _, go2 _ ?_, hrun, hended, _, _, rfl, ?_, hend.1, hend.2.1, hend.2.2.1, hend.2.2.2.mono (by decide) (by decide)⟩
  · exact retOut X9 hx Bd.returns rfl (Or.inr (Or.inr (Or.inr (Or.inr ⟨rfl, rfl, rfl⟩)))) (hb hby d9_14) hr
  · show Q9f88 Z a1 jw Ts h0 n0 _ T9.heap T9.vm _
    rw [e9]
    exact ⟨rl, b9, kb9, _, rfl, N0, E9, A9, C9, V9, Ar9, I9, L9⟩
theorem ef_9a88 (m : MethodId) (x0 : Addr) : entryFrame m #[(.ref x0)] 1 = mkF m 0 #[.val (.ref x0)] [] := by first | (simp [entryFrame, mkF, argsToLocals, Value.category]; done) | rfl
def Q9a88 (Z : State) (a1 : Addr) (jw : Addr) (rl : Addr) (h0 : Heap) (n0 : Nat) (v : Option Value) (h : Heap) (L : List Loc) : Prop := v = some (.ref rl) ∧ Fr n0 L ∧ h = h0
set_option maxRecDepth 65536 in
set_option maxHeartbeats 40000000 in
theorem rm9a88 (l : Launch) (Z : State) (a0 : Array Value) (hw : ∀ d ∈ tables_1, d.before a0 Z = true) (ws : List Jvm.Cond) (a1 : Addr) (jw : Addr) (rl : Addr) (h0 : Heap) (n0 : Nat) (Z0 : n0 ≤ h0.size) (F_jwt : Fld Z h0 a1 "io/subjectwire/auth/Credentials" "jwt" "Ljava/lang/String;" (.ref jw)) :
    MetFree l (⟨"io/subjectwire/auth/Credentials", "toString", "()Ljava/lang/String;"⟩ : MethodName) (head1 (Jvm.Cond.code (⟨"io/subjectwire/auth/Credentials", "toString", "()Ljava/lang/String;"⟩ : MethodName) prog_32_method_6_code 1 (some (.object "java/lang/String")) :: ws) ({ frames := 0, cells := 0, slots := 0, locals := 0 } : Room)) (fun aax UU => aax = #[(.ref a1)] ∧ Z.Warmed39 UU.vm ∧ UU.heap = h0 ∧ Lit (Z.setVm UU.vm) "io/subjectwire/auth/Credentials" 88 rl) (fun _ _ _ _ _ => True) (fun _ UU oux UU' => ∃ rvx Lrx, oux = .returned rvx ∧ Q9a88 Z a1 jw rl h0 n0 rvx UU'.heap Lrx ∧ FrameEnd UU oux UU' Lrx ({ frames := 0, cells := 0, slots := 0, locals := 0 } : Room).cells ({ frames := 0, cells := 0, slots := 0, locals := 0 } : Room).slots) := by
  refine MetFree.of_bodySF (plainFor_of_name own_pn_io_subjectwire_auth_Credentials) hisR ?_
  intro p e s m args below meth c s₁ Bd hml0 hP hK
  obtain ⟨rfl, hZ, hh, hJ⟩ := hP
  have hx := Bd.exec
  have hby := Bd.bytes
  have hml : c.maxLocals = 1 := hml0
  have hown : s.vm.findClass "io/subjectwire/auth/Credentials" = some m.cls := findClass_of_methodNamed Bd.named
  have hnm := (name_of_methodNamed Bd.named Bd.method).1
  have X0 : Stand p l e ({ frames := 0, cells := 0, slots := 0, locals := 0 } : Room) s m #[(.ref a1)] below meth c s₁ [] 0 0 := Stand.of_body Bd
  have e0 : s₁.heap = h0 := by rw [← hh, Bd.state]; rfl
  have N0 := Fr.nil n0
  have p0 : own_go p e below (s₁.setTop (entryFrame m #[(.ref a1)] 1)) (s₁.setTop (mkF m 0 #[.val (.ref a1)] [])) := fun ttx ktx => castTop (ef_9a88 m a1) ktx
  obtain ⟨T1, X1, e1, st1⟩ := getF X0 hx hZ hown (host := "") (Or.inl (hw _ (List.mem_of_getElem? (i := 41) rfl))) Via.refl e0 F_jwt (g := (mkF m 1 #[.val (.ref a1)] [(.ref a1)])) rfl rfl (hb hby d9_1)
  have st9 := ldcAgain (s := s) (vm0 := s.vm) X1 hx hZ hown (hw _ (List.mem_of_getElem? (i := 53) rfl)) (a := rl) hJ (g := (mkF m 12 #[.val (.ref a1)] [])) rfl (hb hby d9_12)
  have go2 : own_go p e below (s₁.setTop (entryFrame m #[(.ref a1)] 1)) (T1.setTop (mkF m 14 #[.val (.ref a1)] [(.ref rl)])) := by
    intro ttx ktx
    refine p0 ttx ?_
    show Steps p.tables e below (s₁.setTop (mkF m 0 #[.val (.ref a1)] [])) _
    refine XS.aloadN X0.here hx rfl (hb hby d9_0) rfl rfl ?_
    show Steps p.tables e below (s₁.setTop (mkF m 1 #[.val (.ref a1)] [(.ref a1)])) _
    refine st1 _ ?_
    show Steps p.tables e below (T1.setTop (mkF m 4 #[.val (.ref a1)] [(.ref jw)])) _
    refine XS.ifnonnullYes X1.here hx rfl (pc0 := 4) (pc' := 12) rfl (hb hby d9_4) rfl (by decide) (by decide) ?_
    show Steps p.tables e below (T1.setTop (mkF m 12 #[.val (.ref a1)] [])) _
    refine st9 _ ?_
    exact ktx
  obtain ⟨fs, hr, hrun, hended, hW, hsame⟩ := X1.leave (v := some (.ref rl)) (fun h => by rw [Bd.returns] at h; cases h)
  refine ⟨_, _, go2 _ ?_, hrun, hended, _, _, rfl, ?_, ⟨_, rfl⟩, hW, hsame.mono (by decide) (by decide)⟩
  · exact retOut X1 hx Bd.returns rfl (Or.inr (Or.inr (Or.inr (Or.inr ⟨rfl, rfl, rfl⟩)))) (hb hby d9_14) hr
  · show Q9a88 Z a1 jw rl h0 n0 _ T1.heap _
    rw [e1]
    exact ⟨rfl, N0, rfl⟩
theorem d10_0 : decode jdk_42_method_55_code 0 = .ok (.aload_n 0, 1) := by decide +kernel
theorem d10_1 : decode jdk_42_method_55_code 1 = .ok (.getfield 9, 3) := by decide +kernel
theorem d10_4 : decode jdk_42_method_55_code 4 = .ok (.arraylength, 1) := by decide +kernel
theorem d10_5 : decode jdk_42_method_55_code 5 = .ok (.ifCond .ne 7, 3) := by decide +kernel
theorem d10_12 : decode jdk_42_method_55_code 12 = .ok (.iconst 0, 1) := by decide +kernel
theorem d10_13 : decode jdk_42_method_55_code 13 = .ok (.ireturn, 1) := by decide +kernel
theorem own_pn_java_lang_String : plainName "java/lang/String" = true := by first | (simp [plainName, overriddenIn]; done) | decide +kernel
theorem ef_10 (m : MethodId) (x0 : Addr) : entryFrame m #[(.ref x0)] 1 = mkF m 0 #[.val (.ref x0)] [] := by first | (simp [entryFrame, mkF, argsToLocals, Value.category]; done) | rfl
def Q10 (Z : State) (a1 : Addr) (d1 : Addr) (k1 : ClassId) (z1 : Int32) (vs1 : List Value) (h0 : Heap) (n0 : Nat) (v : Option Value) (h : Heap) (L : List Loc) : Prop := v = some (.int (0 : Int32)) ∧ Fr n0 L ∧ h = h0
set_option maxRecDepth 65536 in
set_option maxHeartbeats 40000000 in
theorem rm10 (l : Launch) (Z : State) (a0 : Array Value) (hw : ∀ d ∈ tables_1, d.before a0 Z = true) (ws : List Jvm.Cond) (a1 : Addr) (d1 : Addr) (k1 : ClassId) (z1 : Int32) (vs1 : List Value) (h0 : Heap) (n0 : Nat) (Z0 : n0 ≤ h0.size) (F_value : Fld Z h0 a1 "java/lang/String" "value" "[B" (.ref d1)) (V_d1 : Arv Z h0 d1 k1 .byte z1 vs1 (.int (0 : Int32))) (hz : ¬ (z1 = (0 : Int32))) :
    MetFree l (⟨"java/lang/String", "isEmpty", "()Z"⟩ : MethodName) (head1 (Jvm.Cond.code (⟨"java/lang/String", "isEmpty", "()Z"⟩ : MethodName) jdk_42_method_55_code 1 (some .boolean) :: ws) ({ frames := 0, cells := 0, slots := 0, locals := 0 } : Room)) (fun aax UU => aax = #[(.ref a1)] ∧ Z.Warmed39 UU.vm ∧ UU.heap = h0) (fun _ _ _ _ _ => True) (fun _ UU oux UU' => ∃ rvx Lrx, oux = .returned rvx ∧ Q10 Z a1 d1 k1 z1 vs1 h0 n0 rvx UU'.heap Lrx ∧ FrameEnd UU oux UU' Lrx ({ frames := 0, cells := 0, slots := 0, locals := 0 } : Room).cells ({ frames := 0, cells := 0, slots := 0, locals := 0 } : Room).slots) := by
  refine MetFree.of_bodySF (plainFor_of_name own_pn_java_lang_String) hisR ?_
  intro p e s m args below meth c s₁ Bd hml0 hP hK
  obtain ⟨rfl, hZ, hh⟩ := hP
  have hx := Bd.exec
  have hby := Bd.bytes
  have hml : c.maxLocals = 1 := hml0
  have hown : s.vm.findClass "java/lang/String" = some m.cls := findClass_of_methodNamed Bd.named
  have hnm := (name_of_methodNamed Bd.named Bd.method).1
  have X0 : Stand p l e ({ frames := 0, cells := 0, slots := 0, locals := 0 } : Room) s m #[(.ref a1)] below meth c s₁ [] 0 0 := Stand.of_body Bd
  have e0 : s₁.heap = h0 := by rw [← hh, Bd.state]; rfl
  have N0 := Fr.nil n0
  have p0 : own_go p e below (s₁.setTop (entryFrame m #[(.ref a1)] 1)) (s₁.setTop (mkF m 0 #[.val (.ref a1)] [])) := fun ttx ktx => castTop (ef_10 m a1) ktx
  obtain ⟨T1, X1, e1, st1⟩ := getF X0 hx hZ hown (host := "") (Or.inl (hw _ (List.mem_of_getElem? (i := 32) rfl))) Via.refl e0 F_value (g := (mkF m 1 #[.val (.ref a1)] [(.ref a1)])) rfl rfl (hb hby d10_1)
  obtain ⟨cl2, Ar2, -, S2, M2, -, -⟩ := id V_d1
  have hc3_5 : ¬ (z1 = (0 : Int32)) := hz
  have go4 : own_go p e below (s₁.setTop (entryFrame m #[(.ref a1)] 1)) (T1.setTop (mkF m 13 #[.val (.ref a1)] [(.int (0 : Int32))])) := by
    intro ttx ktx
    refine p0 ttx ?_
    show Steps p.tables e below (s₁.setTop (mkF m 0 #[.val (.ref a1)] [])) _
    refine XS.aloadN X0.here hx rfl (hb hby d10_0) rfl rfl ?_
    show Steps p.tables e below (s₁.setTop (mkF m 1 #[.val (.ref a1)] [(.ref a1)])) _
    refine st1 _ ?_
    show Steps p.tables e below (T1.setTop (mkF m 4 #[.val (.ref a1)] [(.ref d1)])) _
    refine X1.arraylength hx (own_hp e1 Ar2.1) (State.isArrayOf_alike hZ.alike Ar2.2.1) (g := (mkF m 4 #[.val (.ref a1)] [(.ref d1)])) rfl rfl (hb hby d10_4) _ ?_
    rw [len_of S2 M2]
    show Steps p.tables e below (T1.setTop (mkF m 5 #[.val (.ref a1)] [(.int z1)])) _
    refine XS.ifYes X1.here hx rfl (pc0 := 5) (pc' := 12) rfl (hb hby d10_5) rfl ((if0 _ _).trans (feq hc3_5).2) (by decide) (by decide) ?_
    show Steps p.tables e below (T1.setTop (mkF m 12 #[.val (.ref a1)] [])) _
    refine XS.iconst X1.here hx rfl (hb hby d10_12) ?_
    exact ktx
  obtain ⟨fs, hr, hrun, hended, hW, hsame⟩ := X1.leave (v := some (.int (0 : Int32))) (fun h => by rw [Bd.returns] at h; cases h)
  refine ⟨_, _, go4 _ ?_, hrun, hended, _, _, rfl, ?_, ⟨_, rfl⟩, hW, hsame.mono (by decide) (by decide)⟩
  · exact retN X1 hx (t := .boolean) Bd.returns (by simp) (hb hby d10_13) hr
  · show Q10 Z a1 d1 k1 z1 vs1 h0 n0 _ T1.heap _
    rw [e1]
    exact ⟨rfl, N0, rfl⟩
theorem d12_0 : decode jdk_43_method_13_code 0 = .ok (.aload_n 0, 1) := by decide +kernel
theorem d12_1 : decode jdk_43_method_13_code 1 = .ok (.arraylength, 1) := by decide +kernel
theorem d12_2 : decode jdk_43_method_13_code 2 = .ok (.aload_n 1, 1) := by decide +kernel
theorem d12_3 : decode jdk_43_method_13_code 3 = .ok (.arraylength, 1) := by decide +kernel
theorem d12_4 : decode jdk_43_method_13_code 4 = .ok (.if_icmp .ne 30, 3) := by decide +kernel
theorem d12_34 : decode jdk_43_method_13_code 34 = .ok (.iconst 0, 1) := by decide +kernel
theorem d12_35 : decode jdk_43_method_13_code 35 = .ok (.ireturn, 1) := by decide +kernel
theorem own_pn_java_lang_StringLatin1 : plainName "java/lang/StringLatin1" = true := by first | (simp [plainName, overriddenIn]; done) | decide +kernel
theorem ef_12 (m : MethodId) (x0 : Addr) (x1 : Addr) : entryFrame m #[(.ref x0), (.ref x1)] 3 = mkF m 0 #[.val (.ref x0), .val (.ref x1), .unset] [] := by first | (simp [entryFrame, mkF, argsToLocals, Value.category]; done) | rfl
def Q12 (Z : State) (a1 : Addr) (a2 : Addr) (k1 : ClassId) (z1 : Int32) (vs1 : List Value) (k2 : ClassId) (z2 : Int32) (vs2 : List Value) (h0 : Heap) (n0 : Nat) (v : Option Value) (h : Heap) (L : List Loc) : Prop := v = some (.int (0 : Int32)) ∧ Fr n0 L ∧ h = h0
set_option maxRecDepth 65536 in
set_option maxHeartbeats 40000000 in
theorem rm12 (l : Launch) (Z : State) (a0 : Array Value) (hw : ∀ d ∈ tables_1, d.before a0 Z = true) (ws : List Jvm.Cond) (a1 : Addr) (a2 : Addr) (k1 : ClassId) (z1 : Int32) (vs1 : List Value) (k2 : ClassId) (z2 : Int32) (vs2 : List Value) (h0 : Heap) (n0 : Nat) (Z0 : n0 ≤ h0.size) (V_1 : Arv Z h0 a1 k1 .byte z1 vs1 (.int (0 : Int32))) (V_2 : Arv Z h0 a2 k2 .byte z2 vs2 (.int (0 : Int32))) (hz : ¬ (z1 = z2)) :
    MetFree l (⟨"java/lang/StringLatin1", "equals", "([B[B)Z"⟩ : MethodName) (head1 (Jvm.Cond.code (⟨"java/lang/StringLatin1", "equals", "([B[B)Z"⟩ : MethodName) jdk_43_method_13_code 3 (some .boolean) :: ws) ({ frames := 0, cells := 0, slots := 0, locals := 0 } : Room)) (fun aax UU => aax = #[(.ref a1), (.ref a2)] ∧ Z.Warmed39 UU.vm ∧ UU.heap = h0) (fun _ _ _ _ _ => True) (fun _ UU oux UU' => ∃ rvx Lrx, oux = .returned rvx ∧ Q12 Z a1 a2 k1 z1 vs1 k2 z2 vs2 h0 n0 rvx UU'.heap Lrx ∧ FrameEnd UU oux UU' Lrx ({ frames := 0, cells := 0, slots := 0, locals := 0 } : Room).cells ({ frames := 0, cells := 0, slots := 0, locals := 0 } : Room).slots) := by
  refine MetFree.of_bodySF (plainFor_of_name own_pn_java_lang_StringLatin1) hisR ?_
  intro p e s m args below meth c s₁ Bd hml0 hP hK
  obtain ⟨rfl, hZ, hh⟩ := hP
  have hx := Bd.exec
  have hby := Bd.bytes
  have hml : c.maxLocals = 3 := hml0
  have hown : s.vm.findClass "java/lang/StringLatin1" = some m.cls := findClass_of_methodNamed Bd.named
  have hnm := (name_of_methodNamed Bd.named Bd.method).1
  have X0 : Stand p l e ({ frames := 0, cells := 0, slots := 0, locals := 0 } : Room) s m #[(.ref a1), (.ref a2)] below meth c s₁ [] 0 0 := Stand.of_body Bd
  have e0 : s₁.heap = h0 := by rw [← hh, Bd.state]; rfl
  have N0 := Fr.nil n0
  have p0 : own_go p e below (s₁.setTop (entryFrame m #[(.ref a1), (.ref a2)] 3)) (s₁.setTop (mkF m 0 #[.val (.ref a1), .val (.ref a2), .unset] [])) := fun ttx ktx => castTop (ef_12 m a1 a2) ktx
  obtain ⟨cl1, Ar1, -, S1, M1, -, -⟩ := id V_1
  obtain ⟨cl2, Ar2, -, S2, M2, -, -⟩ := id V_2
  have hc3_4 : ¬ (z1 = z2) := hz
  have go4 : own_go p e below (s₁.setTop (entryFrame m #[(.ref a1), (.ref a2)] 3)) (s₁.setTop (mkF m 35 #[.val (.ref a1), .val (.ref a2), .unset] [(.int (0 : Int32))])) := by
    intro ttx ktx
    refine p0 ttx ?_
    show Steps p.tables e below (s₁.setTop (mkF m 0 #[.val (.ref a1), .val (.ref a2), .unset] [])) _
    refine XS.aloadN X0.here hx rfl (hb hby d12_0) rfl rfl ?_
    show Steps p.tables e below (s₁.setTop (mkF m 1 #[.val (.ref a1), .val (.ref a2), .unset] [(.ref a1)])) _
    refine X0.arraylength hx (own_hp e0 Ar1.1) (State.isArrayOf_alike hZ.alike Ar1.2.1) (g := (mkF m 1 #[.val (.ref a1), .val (.ref a2), .unset] [(.ref a1)])) rfl rfl (hb hby d12_1) _ ?_
    rw [len_of S1 M1]
    show Steps p.tables e below (s₁.setTop (mkF m 2 #[.val (.ref a1), .val (.ref a2), .unset] [(.int z1)])) _
    refine XS.aloadN X0.here hx rfl (hb hby d12_2) rfl rfl ?_
    show Steps p.tables e below (s₁.setTop (mkF m 3 #[.val (.ref a1), .val (.ref a2), .unset] [(.ref a2), (.int z1)])) _
    refine X0.arraylength hx (own_hp e0 Ar2.1) (State.isArrayOf_alike hZ.alike Ar2.2.1) (g := (mkF m 3 #[.val (.ref a1), .val (.ref a2), .unset] [(.ref a2), (.int z1)])) rfl rfl (hb hby d12_3) _ ?_
    rw [len_of S2 M2]
    show Steps p.tables e below (s₁.setTop (mkF m 4 #[.val (.ref a1), .val (.ref a2), .unset] [(.int z2), (.int z1)])) _
    refine XS.icmpYes X0.here hx rfl (pc0 := 4) (pc' := 34) rfl (hb hby d12_4) rfl (feq hc3_4).2 (by decide) (by decide) ?_
    show Steps p.tables e below (s₁.setTop (mkF m 34 #[.val (.ref a1), .val (.ref a2), .unset] [])) _
    refine XS.iconst X0.here hx rfl (hb hby d12_34) ?_
    exact ktx
  obtain ⟨fs, hr, hrun, hended, hW, hsame⟩ := X0.leave (v := some (.int (0 : Int32))) (fun h => by rw [Bd.returns] at h; cases h)
  refine ⟨_, _, go4 _ ?_, hrun, hended, _, _, rfl, ?_, ⟨_, rfl⟩, hW, hsame.mono (by decide) (by decide)⟩
  · exact retN X0 hx (t := .boolean) Bd.returns (by simp) (hb hby d12_35) hr
  · show Q12 Z a1 a2 k1 z1 vs1 k2 z2 vs2 h0 n0 _ s₁.heap _
    rw [e0]
    exact ⟨rfl, N0, rfl⟩
theorem d11_0 : decode jdk_42_method_66_code 0 = .ok (.aload_n 0, 1) := by decide +kernel
theorem d11_1 : decode jdk_42_method_66_code 1 = .ok (.aload_n 1, 1) := by decide +kernel
theorem d11_2 : decode jdk_42_method_66_code 2 = .ok (.if_acmp .ne 5, 3) := by decide +kernel
theorem d11_5 : decode jdk_42_method_66_code 5 = .ok (.iconst 1, 1) := by decide +kernel
theorem d11_6 : decode jdk_42_method_66_code 6 = .ok (.ireturn, 1) := by decide +kernel
theorem ef_11s (m : MethodId) (x0 : Addr) : entryFrame m #[(.ref x0), (.ref (a1))] 3 = mkF m 0 #[.val (.ref x0), .val (.ref (a1)), .unset] [] := by first | (simp [entryFrame, mkF, argsToLocals, Value.category]; done) | rfl
def Q11s (Z : State) (a1 : Addr) (h0 : Heap) (n0 : Nat) (v : Option Value) (h : Heap) (L : List Loc) : Prop := v = some (.int (1 : Int32)) ∧ Fr n0 L ∧ h = h0
set_option maxRecDepth 65536 in
set_option maxHeartbeats 40000000 in
theorem rm11s (l : Launch) (Z : State) (a0 : Array Value) (hw : ∀ d ∈ tables_1, d.before a0 Z = true) (ws : List Jvm.Cond) (a1 : Addr) (h0 : Heap) (n0 : Nat) (Z0 : n0 ≤ h0.size) :
    MetFree l (⟨"java/lang/String", "equals", "(Ljava/lang/Object;)Z"⟩ : MethodName) (head1 (Jvm.Cond.code (⟨"java/lang/String", "equals", "(Ljava/lang/Object;)Z"⟩ : MethodName) jdk_42_method_66_code 3 (some .boolean) :: ws) ({ frames := 0, cells := 0, slots := 0, locals := 0 } : Room)) (fun aax UU => aax = #[(.ref a1), (.ref (a1))] ∧ Z.Warmed39 UU.vm ∧ UU.heap = h0) (fun _ _ _ _ _ => True) (fun _ UU oux UU' => ∃ rvx Lrx, oux = .returned rvx ∧ Q11s Z a1 h0 n0 rvx UU'.heap Lrx ∧ FrameEnd UU oux UU' Lrx ({ frames := 0, cells := 0, slots := 0, locals := 0 } : Room).cells ({ frames := 0, cells := 0, slots := 0, locals := 0 } : Room).slots) := by
  refine MetFree.of_bodySF (plainFor_of_name own_pn_java_lang_String) hisR ?_
  intro p e s m args below meth c s₁ Bd hml0 hP hK
  obtain ⟨rfl, hZ, hh⟩ := hP
  have hx := Bd.exec
  have hby := Bd.bytes
  have hml : c.maxLocals = 3 := hml0
  have hown : s.vm.findClass "java/lang/String" = some m.cls := findClass_of_methodNamed Bd.named
  have hnm := (name_of_methodNamed Bd.named Bd.method).1
  have X0 : Stand p l e ({ frames := 0, cells := 0, slots := 0, locals := 0 } : Room) s m #[(.ref a1), (.ref (a1))] below meth c s₁ [] 0 0 := Stand.of_body Bd
  have e0 : s₁.heap = h0 := by rw [← hh, Bd.state]; rfl
  have N0 := Fr.nil n0
  have p0 : own_go p e below (s₁.setTop (entryFrame m #[(.ref a1), (.ref (a1))] 3)) (s₁.setTop (mkF m 0 #[.val (.ref a1), .val (.ref (a1)), .unset] [])) := fun ttx ktx => castTop (ef_11s m a1) ktx
  have go1 : own_go p e below (s₁.setTop (entryFrame m #[(.ref a1), (.ref (a1))] 3)) (s₁.setTop (mkF m 6 #[.val (.ref a1), .val (.ref (a1)), .unset] [(.int (1 : Int32))])) := by
    intro ttx ktx
    refine p0 ttx ?_
    show Steps p.tables e below (s₁.setTop (mkF m 0 #[.val (.ref a1), .val (.ref (a1)), .unset] [])) _
    refine XS.aloadN X0.here hx rfl (hb hby d11_0) rfl rfl ?_
    show Steps p.tables e below (s₁.setTop (mkF m 1 #[.val (.ref a1), .val (.ref (a1)), .unset] [(.ref a1)])) _
    refine XS.aloadN X0.here hx rfl (hb hby d11_1) rfl rfl ?_
    show Steps p.tables e below (s₁.setTop (mkF m 2 #[.val (.ref a1), .val (.ref (a1)), .unset] [(.ref (a1)), (.ref a1)])) _
    refine acmp X0 hx (g := (mkF m 2 #[.val (.ref a1), .val (.ref (a1)), .unset] [(.ref (a1)), (.ref a1)])) rfl (x := (.ref a1)) (y := (.ref (a1))) rfl rfl (pc0 := 2) (pc' := 5) (same := true) rfl (hb hby d11_2) rfl (decide_eq_true rfl) (by decide) rfl ?_
    show Steps p.tables e below (s₁.setTop (mkF m 5 #[.val (.ref a1), .val (.ref (a1)), .unset] [])) _
    refine XS.iconst X0.here hx rfl (hb hby d11_5) ?_
    exact ktx
  obtain ⟨fs, hr, hrun, hended, hW, hsame⟩ := X0.leave (v := some (.int (1 : Int32))) (fun h => by rw [Bd.returns] at h; cases h)
  refine ⟨_, _, go1 _ ?_, hrun, hended, _, _, rfl, ?_, ⟨_, rfl⟩, hW, hsame.mono (by decide) (by decide)⟩
  · exact retN X0 hx (t := .boolean) Bd.returns (by simp) (hb hby d11_6) hr
  · show Q11s Z a1 h0 n0 _ s₁.heap _
    rw [e0]
    exact ⟨rfl, N0, rfl⟩
theorem d11_7 : decode jdk_42_method_66_code 7 = .ok (.aload_n 1, 1) := by decide +kernel
theorem d11_8 : decode jdk_42_method_66_code 8 = .ok (.instanceof 10, 3) := by decide +kernel
theorem d11_11 : decode jdk_42_method_66_code 11 = .ok (.ifCond .eq 43, 3) := by decide +kernel
theorem d11_14 : decode jdk_42_method_66_code 14 = .ok (.aload_n 1, 1) := by decide +kernel
theorem d11_15 : decode jdk_42_method_66_code 15 = .ok (.checkcast 10, 3) := by decide +kernel
theorem d11_18 : decode jdk_42_method_66_code 18 = .ok (.astore_n 2, 1) := by decide +kernel
theorem d11_19 : decode jdk_42_method_66_code 19 = .ok (.getstatic 38, 3) := by decide +kernel
theorem d11_22 : decode jdk_42_method_66_code 22 = .ok (.ifCond .eq 14, 3) := by decide +kernel
theorem d11_25 : decode jdk_42_method_66_code 25 = .ok (.aload_n 0, 1) := by decide +kernel
theorem d11_26 : decode jdk_42_method_66_code 26 = .ok (.getfield 15, 3) := by decide +kernel
theorem d11_29 : decode jdk_42_method_66_code 29 = .ok (.aload_n 2, 1) := by decide +kernel
theorem d11_30 : decode jdk_42_method_66_code 30 = .ok (.getfield 15, 3) := by decide +kernel
theorem d11_33 : decode jdk_42_method_66_code 33 = .ok (.if_icmp .ne 21, 3) := by decide +kernel
theorem d11_36 : decode jdk_42_method_66_code 36 = .ok (.aload_n 0, 1) := by decide +kernel
theorem d11_37 : decode jdk_42_method_66_code 37 = .ok (.getfield 9, 3) := by decide +kernel
theorem d11_40 : decode jdk_42_method_66_code 40 = .ok (.aload_n 2, 1) := by decide +kernel
theorem d11_41 : decode jdk_42_method_66_code 41 = .ok (.getfield 9, 3) := by decide +kernel
theorem own_pd1 : parseMethodDescriptor "([B[B)Z" = some ⟨[(.array .byte), (.array .byte)], some .boolean⟩ := by decide +kernel
theorem d11_44 : decode jdk_42_method_66_code 44 = .ok (.invokestatic 541, 3) := by decide +kernel
theorem d11_47 : decode jdk_42_method_66_code 47 = .ok (.ifCond .eq 7, 3) := by decide +kernel
theorem d11_54 : decode jdk_42_method_66_code 54 = .ok (.iconst 0, 1) := by decide +kernel
theorem d11_55 : decode jdk_42_method_66_code 55 = .ok (.ireturn, 1) := by decide +kernel
theorem ef_11d (m : MethodId) (x0 : Addr) (x1 : Addr) : entryFrame m #[(.ref x0), (.ref x1)] 3 = mkF m 0 #[.val (.ref x0), .val (.ref x1), .unset] [] := by first | (simp [entryFrame, mkF, argsToLocals, Value.category]; done) | rfl
def Q11d (Z : State) (a1 : Addr) (a2 : Addr) (G1 : Int32) (d1 : Addr) (d2 : Addr) (k1 : ClassId) (z1 : Int32) (vs1 : List Value) (k2 : ClassId) (z2 : Int32) (vs2 : List Value) (h0 : Heap) (n0 : Nat) (v : Option Value) (h : Heap) (L : List Loc) : Prop := v = some (.int (0 : Int32)) ∧ Fr n0 L ∧ h = h0
set_option maxRecDepth 65536 in
set_option maxHeartbeats 40000000 in
theorem rm11d (l : Launch) (Z : State) (a0 : Array Value) (hw : ∀ d ∈ tables_1, d.before a0 Z = true) (ws : List Jvm.Cond) (a1 : Addr) (a2 : Addr) (G1 : Int32) (d1 : Addr) (d2 : Addr) (k1 : ClassId) (z1 : Int32) (vs1 : List Value) (k2 : ClassId) (z2 : Int32) (vs2 : List Value) (h0 : Heap) (n0 : Nat) (Z0 : n0 ≤ h0.size) (hne : a1 ≠ a2) (E_2 : Exa Z h0 a2 "java/lang/String") (S_1 : Sta Z h0 "java/lang/String" "COMPACT_STRINGS" "Z" (.int G1)) (PG : ¬ (G1 = (0 : Int32))) (C_1 : Fld Z h0 a1 "java/lang/String" "coder" "B" (.int (0 : Int32))) (F_1 : Fld Z h0 a1 "java/lang/String" "value" "[B" (.ref d1)) (V_1 : Arv Z h0 d1 k1 .byte z1 vs1 (.int (0 : Int32))) (C_2 : Fld Z h0 a2 "java/lang/String" "coder" "B" (.int (0 : Int32))) (F_2 : Fld Z h0 a2 "java/lang/String" "value" "[B" (.ref d2)) (V_2 : Arv Z h0 d2 k2 .byte z2 vs2 (.int (0 : Int32))) (hz : ¬ (z1 = z2)) :
    MetFree l (⟨"java/lang/String", "equals", "(Ljava/lang/Object;)Z"⟩ : MethodName) (head1 (Jvm.Cond.code (⟨"java/lang/String", "equals", "(Ljava/lang/Object;)Z"⟩ : MethodName) jdk_42_method_66_code 3 (some .boolean) :: ws) ({ frames := 1, cells := 0, slots := 0, locals := 14 } : Room)) (fun aax UU => aax = #[(.ref a1), (.ref a2)] ∧ Z.Warmed39 UU.vm ∧ UU.heap = h0) (fun _ _ _ _ _ => True) (fun _ UU oux UU' => ∃ rvx Lrx, oux = .returned rvx ∧ Q11d Z a1 a2 G1 d1 d2 k1 z1 vs1 k2 z2 vs2 h0 n0 rvx UU'.heap Lrx ∧ FrameEnd UU oux UU' Lrx ({ frames := 1, cells := 0, slots := 0, locals := 14 } : Room).cells ({ frames := 1, cells := 0, slots := 0, locals := 14 } : Room).slots) := by
  refine MetFree.of_bodySF (plainFor_of_name own_pn_java_lang_String) hisR ?_
  intro p e s m args below meth c s₁ Bd hml0 hP hK
  obtain ⟨rfl, hZ, hh⟩ := hP
  have hx := Bd.exec
  have hby := Bd.bytes
  have hml : c.maxLocals = 3 := hml0
  have hown : s.vm.findClass "java/lang/String" = some m.cls := findClass_of_methodNamed Bd.named
  have hnm := (name_of_methodNamed Bd.named Bd.method).1
  have X0 : Stand p l e ({ frames := 1, cells := 0, slots := 0, locals := 14 } : Room) s m #[(.ref a1), (.ref a2)] below meth c s₁ [] 0 0 := Stand.of_body Bd
  have e0 : s₁.heap = h0 := by rw [← hh, Bd.state]; rfl
  have N0 := Fr.nil n0
  have p0 : own_go p e below (s₁.setTop (entryFrame m #[(.ref a1), (.ref a2)] 3)) (s₁.setTop (mkF m 0 #[.val (.ref a1), .val (.ref a2), .unset] [])) := fun ttx ktx => castTop (ef_11d m a1 a2) ktx
  obtain ⟨T1, X1, e1, st1⟩ := instY X0 hx hZ hown (hw _ (List.mem_of_getElem? (i := 64) rfl)) e0 (Ins.self E_2) (g := (mkF m 8 #[.val (.ref a1), .val (.ref a2), .unset] [(.ref a2)])) rfl rfl (hb hby d11_8)
  have hc2_11 : ¬ ((1 : Int32) = (0 : Int32)) := (by decide)
  obtain ⟨T3, X3, e3, st3⟩ := castY X1 hx hZ hown (hw _ (List.mem_of_getElem? (i := 64) rfl)) e1 (Ins.self E_2) (g := (mkF m 15 #[.val (.ref a1), .val (.ref a2), .unset] [(.ref a2)])) rfl rfl (hb hby d11_15)
  obtain ⟨T4, X4, e4, st4⟩ := getS2 X3 hx hZ hown (host := "") (Or.inl (hw _ (List.mem_of_getElem? (i := 18) rfl))) Via.refl e3 S_1 (g := (mkF m 19 #[.val (.ref a1), .val (.ref a2), .val (.ref a2)] [])) rfl (hb hby d11_19)
  have hc5_22 : ¬ (G1 = (0 : Int32)) := PG
  obtain ⟨T6, X6, e6, st6⟩ := getF X4 hx hZ hown (host := "") (Or.inl (hw _ (List.mem_of_getElem? (i := 30) rfl))) Via.refl e4 C_1 (g := (mkF m 26 #[.val (.ref a1), .val (.ref a2), .val (.ref a2)] [(.ref a1)])) rfl rfl (hb hby d11_26)
  obtain ⟨T7, X7, e7, st7⟩ := getF X6 hx hZ hown (host := "") (Or.inl (hw _ (List.mem_of_getElem? (i := 30) rfl))) Via.refl e6 C_2 (g := (mkF m 30 #[.val (.ref a1), .val (.ref a2), .val (.ref a2)] [(.ref a2), (.int (0 : Int32))])) rfl rfl (hb hby d11_30)
  have go8 : own_go p e below (s₁.setTop (entryFrame m #[(.ref a1), (.ref a2)] 3)) (T7.setTop (mkF m 33 #[.val (.ref a1), .val (.ref a2), .val (.ref a2)] [(.int (0 : Int32)), (.int (0 : Int32))])) := by
    intro ttx ktx
    refine p0 ttx ?_
    show Steps p.tables e below (s₁.setTop (mkF m 0 #[.val (.ref a1), .val (.ref a2), .unset] [])) _
    refine XS.aloadN X0.here hx rfl (hb hby d11_0) rfl rfl ?_
    show Steps p.tables e below (s₁.setTop (mkF m 1 #[.val (.ref a1), .val (.ref a2), .unset] [(.ref a1)])) _
    refine XS.aloadN X0.here hx rfl (hb hby d11_1) rfl rfl ?_
    show Steps p.tables e below (s₁.setTop (mkF m 2 #[.val (.ref a1), .val (.ref a2), .unset] [(.ref a2), (.ref a1)])) _
    refine acmp X0 hx (g := (mkF m 2 #[.val (.ref a1), .val (.ref a2), .unset] [(.ref a2), (.ref a1)])) rfl (x := (.ref a1)) (y := (.ref a2)) rfl rfl (pc0 := 2) (pc' := 7) (same := false) rfl (hb hby d11_2) rfl (decide_eq_false fun q => hne (by injection q)) (by decide) rfl ?_
    show Steps p.tables e below (s₁.setTop (mkF m 7 #[.val (.ref a1), .val (.ref a2), .unset] [])) _
    refine XS.aloadN X0.here hx rfl (hb hby d11_7) rfl rfl ?_
    show Steps p.tables e below (s₁.setTop (mkF m 8 #[.val (.ref a1), .val (.ref a2), .unset] [(.ref a2)])) _
    refine st1 _ ?_
    show Steps p.tables e below (T1.setTop (mkF m 11 #[.val (.ref a1), .val (.ref a2), .unset] [(.int (1 : Int32))])) _
    refine XS.ifNo X1.here hx rfl (hb hby d11_11) rfl ((if0 _ _).trans (feq hc2_11).1) ?_
    show Steps p.tables e below (T1.setTop (mkF m 14 #[.val (.ref a1), .val (.ref a2), .unset] [])) _
    refine XS.aloadN X1.here hx rfl (hb hby d11_14) rfl rfl ?_
    show Steps p.tables e below (T1.setTop (mkF m 15 #[.val (.ref a1), .val (.ref a2), .unset] [(.ref a2)])) _
    refine st3 _ ?_
    show Steps p.tables e below (T3.setTop (mkF m 18 #[.val (.ref a1), .val (.ref a2), .unset] [(.ref a2)])) _
    refine XS.astoreN X3.here hx rfl (hb hby d11_18) rfl rfl (l' := #[.val (.ref a1), .val (.ref a2), .val (.ref a2)]) rfl ?_
    show Steps p.tables e below (T3.setTop (mkF m 19 #[.val (.ref a1), .val (.ref a2), .val (.ref a2)] [])) _
    refine st4 _ ?_
    show Steps p.tables e below (T4.setTop (mkF m 22 #[.val (.ref a1), .val (.ref a2), .val (.ref a2)] [(.int G1)])) _
    refine XS.ifNo X4.here hx rfl (hb hby d11_22) rfl ((if0 _ _).trans (feq hc5_22).1) ?_
    show Steps p.tables e below (T4.setTop (mkF m 25 #[.val (.ref a1), .val (.ref a2), .val (.ref a2)] [])) _
    refine XS.aloadN X4.here hx rfl (hb hby d11_25) rfl rfl ?_
    show Steps p.tables e below (T4.setTop (mkF m 26 #[.val (.ref a1), .val (.ref a2), .val (.ref a2)] [(.ref a1)])) _
    refine st6 _ ?_
    show Steps p.tables e below (T6.setTop (mkF m 29 #[.val (.ref a1), .val (.ref a2), .val (.ref a2)] [(.int (0 : Int32))])) _
    refine XS.aloadN X6.here hx rfl (hb hby d11_29) rfl rfl ?_
    show Steps p.tables e below (T6.setTop (mkF m 30 #[.val (.ref a1), .val (.ref a2), .val (.ref a2)] [(.ref a2), (.int (0 : Int32))])) _
    refine st7 _ ?_
    exact ktx
  have hc9_33 : (0 : Int32) = (0 : Int32) := (by decide)
  obtain ⟨T10, X10, e10, st10⟩ := getF X7 hx hZ hown (host := "") (Or.inl (hw _ (List.mem_of_getElem? (i := 32) rfl))) Via.refl e7 F_1 (g := (mkF m 37 #[.val (.ref a1), .val (.ref a2), .val (.ref a2)] [(.ref a1)])) rfl rfl (hb hby d11_37)
  obtain ⟨T11, X11, e11, st11⟩ := getF X10 hx hZ hown (host := "") (Or.inl (hw _ (List.mem_of_getElem? (i := 32) rfl))) Via.refl e10 F_2 (g := (mkF m 41 #[.val (.ref a1), .val (.ref a2), .val (.ref a2)] [(.ref a2), (.ref d1)])) rfl rfl (hb hby d11_41)
  obtain ⟨_, _, ⟨T12, L12, k12, n12⟩, -, X12, ⟨Lc12, hQ12, l12, y12, z12⟩, st12⟩ := Jvm.LawKit.callS X11 hx (y := (⟨"java/lang/StringLatin1", "equals", "([B[B)Z"⟩ : MethodName)) hown (mvT hZ (hw _ (List.mem_of_getElem? (i := 65) rfl))) (mvT hZ (hw _ (List.mem_of_getElem? (i := 66) rfl))) (mvT hZ (hw _ (List.mem_of_getElem? (i := 67) rfl))) (mvT hZ (hw _ (List.mem_of_getElem? (i := 68) rfl))) (by decide) (backOf (W := 0) (rm12 l Z a0 hw [] d1 d2 k1 z1 _ k2 z2 _ h0 n0 Z0 V_1 V_2 hz) hZ (hw _ (List.mem_of_getElem? (i := 68) rfl)) (hw _ (List.mem_of_getElem? (i := 67) rfl)) (by decide) (by decide)) (g := (mkF m 44 #[.val (.ref a1), .val (.ref a2), .val (.ref a2)] [(.ref d2), (.ref d1)])) rfl (by rw [hml]; rfl) (argsL := [(.ref d1), (.ref d2)]) (rest := []) (lenOf own_pd1 rfl) rfl (by show 2 * 0 + _ ≤ _; exact Nat.le_of_eq rfl) (hb hby d11_44) (fun _ _ => ⟨rfl, e11, (by decide : 0 + 0 ≤ _), (by decide : 0 + 0 ≤ _)⟩)
  dsimp only [Pt.U, Pt.locs, Pt.cells, Pt.slots] at X12 l12 y12 z12 st12 hQ12
  subst l12 y12 z12
  obtain ⟨rfl, Nq12, e12⟩ := hQ12
  have N12 := Fr.app N0 Nq12
  have hc13_47 : (0 : Int32) = (0 : Int32) := (by decide)
  have go14 : own_go p e below (s₁.setTop (entryFrame m #[(.ref a1), (.ref a2)] 3)) (T12.setTop (mkF m 55 #[.val (.ref a1), .val (.ref a2), .val (.ref a2)] [(.int (0 : Int32))])) := by
    intro ttx ktx
    refine go8 ttx ?_
    show Steps p.tables e below (T7.setTop (mkF m 33 #[.val (.ref a1), .val (.ref a2), .val (.ref a2)] [(.int (0 : Int32)), (.int (0 : Int32))])) _
    refine XS.icmpNo X7.here hx rfl (hb hby d11_33) rfl (teq hc9_33).2 ?_
    show Steps p.tables e below (T7.setTop (mkF m 36 #[.val (.ref a1), .val (.ref a2), .val (.ref a2)] [])) _
    refine XS.aloadN X7.here hx rfl (hb hby d11_36) rfl rfl ?_
    show Steps p.tables e below (T7.setTop (mkF m 37 #[.val (.ref a1), .val (.ref a2), .val (.ref a2)] [(.ref a1)])) _
    refine st10 _ ?_
    show Steps p.tables e below (T10.setTop (mkF m 40 #[.val (.ref a1), .val (.ref a2), .val (.ref a2)] [(.ref d1)])) _
    refine XS.aloadN X10.here hx rfl (hb hby d11_40) rfl rfl ?_
    show Steps p.tables e below (T10.setTop (mkF m 41 #[.val (.ref a1), .val (.ref a2), .val (.ref a2)] [(.ref a2), (.ref d1)])) _
    refine st11 _ ?_
    show Steps p.tables e below (T11.setTop (mkF m 44 #[.val (.ref a1), .val (.ref a2), .val (.ref a2)] [(.ref d2), (.ref d1)])) _
    refine st12 _ ?_
    show Steps p.tables e below (T12.setTop (mkF m 47 #[.val (.ref a1), .val (.ref a2), .val (.ref a2)] [(.int (0 : Int32))])) _
    refine XS.ifYes X12.here hx rfl (pc0 := 47) (pc' := 54) rfl (hb hby d11_47) rfl ((if0 _ _).trans (teq hc13_47).1) (by decide) (by decide) ?_
    show Steps p.tables e below (T12.setTop (mkF m 54 #[.val (.ref a1), .val (.ref a2), .val (.ref a2)] [])) _
    refine XS.iconst X12.here hx rfl (hb hby d11_54) ?_
    exact ktx
  obtain ⟨fs, hr, hrun, hended, hW, hsame⟩ := X12.leave (v := some (.int (0 : Int32))) (fun h => by rw [Bd.returns] at h; cases h)
  refine ⟨_, _, go14 _ ?_, hrun, hended, _, _, rfl, ?_, ⟨_, rfl⟩, hW, hsame.mono (by decide) (by decide)⟩
  · exact retN X12 hx (t := .boolean) Bd.returns (by simp) (hb hby d11_55) hr
  · show Q11d Z a1 a2 G1 d1 d2 k1 z1 vs1 k2 z2 vs2 h0 n0 _ T12.heap _
    rw [e12]
    exact ⟨rfl, N12, rfl⟩
theorem own_pd2 : parseMethodDescriptor "(I)Ljava/lang/String;" = some ⟨[.int], some (.object "java/lang/String")⟩ := by decide +kernel
theorem own_pd3 : parseMethodDescriptor "(Ljava/lang/String;[C)V" = some ⟨[(.object "java/lang/String"), (.array .char)], none⟩ := by decide +kernel
theorem own_pd4 : parseMethodDescriptor "()Ljava/lang/String;" = some ⟨[], some (.object "java/lang/String")⟩ := by decide +kernel
theorem own_pd5 : parseMethodDescriptor "()Z" = some ⟨[], some .boolean⟩ := by decide +kernel
theorem own_pd6 : parseMethodDescriptor "(Ljava/lang/Object;)Z" = some ⟨[(.object "java/lang/Object")], some .boolean⟩ := by decide +kernel
theorem ef_0 (m : MethodId) (x0 : Int32) (x1 : Int32) (x2 : Int32) (x3 : Int32) (x4 : Int32) : entryFrame m #[(.int x0), (.int x1), (.int x2), (.int x3), (.int x4)] maxLocals = mkF m 0 #[.val (.int x0), .val (.int x1), .val (.int x2), .val (.int x3), .val (.int x4), .unset, .unset, .unset, .unset, .unset, .unset, .unset, .unset, .unset, .unset, .unset, .unset, .unset] [] := by first | (simp [entryFrame, mkF, argsToLocals, Value.category, maxLocals]; done) | rfl
def Q0 (Z : State) (p1 : Int32) (p2 : Int32) (p3 : Int32) (p4 : Int32) (p5 : Int32) (G1 : Int32) (h0 : Heap) (n0 : Nat) (v : Option Value) (h : Heap) (vm : Vm) (L : List Loc) : Prop := v = some (.int 1) ∧ Fr n0 L
set_option maxRecDepth 65536 in
set_option maxHeartbeats 40000000 in
theorem rm0 (l : Launch) (Z : State) (a0 : Array Value) (hw : ∀ d ∈ tables_1, d.before a0 Z = true) (ws : List Jvm.Cond) (p1 : Int32) (p2 : Int32) (p3 : Int32) (p4 : Int32) (p5 : Int32) (G1 : Int32) (h0 : Heap) (n0 : Nat) (Z0 : n0 ≤ h0.size) (O2 : Sta Z Z.heap "java/lang/String" "COMPACT_STRINGS" "Z" (.int G1)) (P5 : ¬ (G1 = (0 : Int32))) (O0 : Old Z n0 h0) (HC86 : Jvm.Lit.constHeld Z "io/subjectwire/auth/Credentials" 86) (HC88 : Jvm.Lit.constHeld Z "io/subjectwire/auth/Credentials" 88) (HCW : Jvm.Lit.compactW.before a0 Z = true) :
    MetFree l x (head1 (Jvm.Cond.code x code maxLocals ret :: ws) room_1) (fun aax UU => aax = #[(.int p1), (.int p2), (.int p3), (.int p4), (.int p5)] ∧ Z.Warmed39 UU.vm ∧ UU.heap = h0 ∧ IB Z UU.vm []) (fun _ _ _ _ _ => True) (fun _ UU oux UU' => ∃ rvx Lrx, oux = .returned rvx ∧ Q0 Z p1 p2 p3 p4 p5 G1 h0 n0 rvx UU'.heap UU'.vm Lrx ∧ ReturnedEndW UU oux UU' Lrx 40 2176) := by
  refine MetFree.of_bodySF (plainFor_of_name own_pn_io_subjectwire_auth_CredentialsToStringPinLaw) hisR ?_
  intro p e s m args below meth c s₁ Bd hml0 hP hK
  obtain ⟨rfl, hZ, hh, hJ⟩ := hP
  have hx := Bd.exec
  have hby := Bd.bytes
  have hml : c.maxLocals = 18 := hml0
  have hown : s.vm.findClass "io/subjectwire/auth/CredentialsToStringPinLaw" = some m.cls := findClass_of_methodNamed Bd.named
  have hnm := (name_of_methodNamed Bd.named Bd.method).1
  have X0 : Stand p l e room_1 s m #[(.int p1), (.int p2), (.int p3), (.int p4), (.int p5)] below meth c s₁ [] 0 0 := Stand.of_body Bd
  have e0 : s₁.heap = h0 := by rw [← hh, Bd.state]; rfl
  have N0 := Fr.nil n0
  have p0 : own_go p e below (s₁.setTop (entryFrame m #[(.int p1), (.int p2), (.int p3), (.int p4), (.int p5)] maxLocals)) (s₁.setTop (mkF m 0 #[.val (.int p1), .val (.int p2), .val (.int p3), .val (.int p4), .val (.int p5), .unset, .unset, .unset, .unset, .unset, .unset, .unset, .unset, .unset, .unset, .unset, .unset, .unset] [])) := fun ttx ktx => castTop (ef_0 m p1 p2 p3 p4 p5) ktx
  have hZs := hZ
  have howns := hown
  have go1 : own_go p e below (s₁.setTop (entryFrame m #[(.int p1), (.int p2), (.int p3), (.int p4), (.int p5)] maxLocals)) (s₁.setTop (mkF m 4 #[.val (.int p1), .val (.int p2), .val (.int p3), .val (.int p4), .val (.int p5), .unset, .unset, .unset, .unset, .unset, .unset, .unset, .unset, .unset, .unset, .unset, .unset, .unset] [(.int (p5 &&& (1 : Int32)))])) := by
    intro ttx ktx
    refine p0 ttx ?_
    show Steps p.tables e below (s₁.setTop (mkF m 0 #[.val (.int p1), .val (.int p2), .val (.int p3), .val (.int p4), .val (.int p5), .unset, .unset, .unset, .unset, .unset, .unset, .unset, .unset, .unset, .unset, .unset, .unset, .unset] [])) _
    refine XS.iload X0.here hx rfl (hb hby at_0) rfl ?_
    show Steps p.tables e below (s₁.setTop (mkF m 2 #[.val (.int p1), .val (.int p2), .val (.int p3), .val (.int p4), .val (.int p5), .unset, .unset, .unset, .unset, .unset, .unset, .unset, .unset, .unset, .unset, .unset, .unset, .unset] [(.int p5)])) _
    refine XS.iconst X0.here hx rfl (hb hby at_2) ?_
    show Steps p.tables e below (s₁.setTop (mkF m 3 #[.val (.int p1), .val (.int p2), .val (.int p3), .val (.int p4), .val (.int p5), .unset, .unset, .unset, .unset, .unset, .unset, .unset, .unset, .unset, .unset, .unset, .unset, .unset] [(.int (1 : Int32)), (.int p5)])) _
    refine XS.iand X0.here hx rfl (hb hby at_3) rfl ?_
    exact ktx
  by_cases hc2_4 : (p5 &&& (1 : Int32)) = (0 : Int32)
  · obtain ⟨v3, hv_v3⟩ : ∃ z : Int32, z = ((p1 &&& (255 : Int32)).toUInt32.toUInt16.toUInt32.toInt32) := ⟨_, rfl⟩
    have go4 : own_go p e below (s₁.setTop (entryFrame m #[(.int p1), (.int p2), (.int p3), (.int p4), (.int p5)] maxLocals)) (s₁.setTop (mkF m 31 #[.val (.int p1), .val (.int p2), .val (.int p3), .val (.int p4), .val (.int p5), .val (.int (0 : Int32)), .val (.int v3), .unset, .unset, .unset, .unset, .unset, .unset, .unset, .unset, .unset, .unset, .unset] [(.int ((((p1.toUInt32 >>> ((8 : Int32) &&& 31).toUInt32).toInt32) &&& (255 : Int32)).toUInt32.toUInt16.toUInt32.toInt32))])) := by
      intro ttx ktx
      refine go1 ttx ?_
      show Steps p.tables e below (s₁.setTop (mkF m 4 #[.val (.int p1), .val (.int p2), .val (.int p3), .val (.int p4), .val (.int p5), .unset, .unset, .unset, .unset, .unset, .unset, .unset, .unset, .unset, .unset, .unset, .unset, .unset] [(.int (p5 &&& (1 : Int32)))])) _
      refine XS.ifYes X0.here hx rfl (pc0 := 4) (pc' := 11) rfl (hb hby at_4) rfl ((if0 _ _).trans (teq hc2_4).1) (by decide) (by decide) ?_
      show Steps p.tables e below (s₁.setTop (mkF m 11 #[.val (.int p1), .val (.int p2), .val (.int p3), .val (.int p4), .val (.int p5), .unset, .unset, .unset, .unset, .unset, .unset, .unset, .unset, .unset, .unset, .unset, .unset, .unset] [])) _
      refine XS.iconst X0.here hx rfl (hb hby at_11) ?_
      show Steps p.tables e below (s₁.setTop (mkF m 12 #[.val (.int p1), .val (.int p2), .val (.int p3), .val (.int p4), .val (.int p5), .unset, .unset, .unset, .unset, .unset, .unset, .unset, .unset, .unset, .unset, .unset, .unset, .unset] [(.int (0 : Int32))])) _
      refine XS.istore X0.here hx rfl (hb hby at_12) rfl (l' := #[.val (.int p1), .val (.int p2), .val (.int p3), .val (.int p4), .val (.int p5), .val (.int (0 : Int32)), .unset, .unset, .unset, .unset, .unset, .unset, .unset, .unset, .unset, .unset, .unset, .unset]) rfl ?_
      show Steps p.tables e below (s₁.setTop (mkF m 14 #[.val (.int p1), .val (.int p2), .val (.int p3), .val (.int p4), .val (.int p5), .val (.int (0 : Int32)), .unset, .unset, .unset, .unset, .unset, .unset, .unset, .unset, .unset, .unset, .unset, .unset] [])) _
      refine XS.iloadN X0.here hx rfl (hb hby at_14) rfl ?_
      show Steps p.tables e below (s₁.setTop (mkF m 15 #[.val (.int p1), .val (.int p2), .val (.int p3), .val (.int p4), .val (.int p5), .val (.int (0 : Int32)), .unset, .unset, .unset, .unset, .unset, .unset, .unset, .unset, .unset, .unset, .unset, .unset] [(.int p1)])) _
      refine XS.sipush X0.here hx rfl (hb hby at_15) ?_
      show Steps p.tables e below (s₁.setTop (mkF m 18 #[.val (.int p1), .val (.int p2), .val (.int p3), .val (.int p4), .val (.int p5), .val (.int (0 : Int32)), .unset, .unset, .unset, .unset, .unset, .unset, .unset, .unset, .unset, .unset, .unset, .unset] [(.int (255 : Int32)), (.int p1)])) _
      refine XS.iand X0.here hx rfl (hb hby at_18) rfl ?_
      show Steps p.tables e below (s₁.setTop (mkF m 19 #[.val (.int p1), .val (.int p2), .val (.int p3), .val (.int p4), .val (.int p5), .val (.int (0 : Int32)), .unset, .unset, .unset, .unset, .unset, .unset, .unset, .unset, .unset, .unset, .unset, .unset] [(.int (p1 &&& (255 : Int32)))])) _
      refine XS.i2c X0.here hx rfl (hb hby at_19) rfl ?_
      show Steps p.tables e below (s₁.setTop (mkF m 20 #[.val (.int p1), .val (.int p2), .val (.int p3), .val (.int p4), .val (.int p5), .val (.int (0 : Int32)), .unset, .unset, .unset, .unset, .unset, .unset, .unset, .unset, .unset, .unset, .unset, .unset] [(.int ((p1 &&& (255 : Int32)).toUInt32.toUInt16.toUInt32.toInt32))])) _
      rw [← hv_v3]
      show Steps p.tables e below (s₁.setTop (mkF m 20 #[.val (.int p1), .val (.int p2), .val (.int p3), .val (.int p4), .val (.int p5), .val (.int (0 : Int32)), .unset, .unset, .unset, .unset, .unset, .unset, .unset, .unset, .unset, .unset, .unset, .unset] [(.int v3)])) _
      refine XS.istore X0.here hx rfl (hb hby at_20) rfl (l' := #[.val (.int p1), .val (.int p2), .val (.int p3), .val (.int p4), .val (.int p5), .val (.int (0 : Int32)), .val (.int v3), .unset, .unset, .unset, .unset, .unset, .unset, .unset, .unset, .unset, .unset, .unset]) rfl ?_
      show Steps p.tables e below (s₁.setTop (mkF m 22 #[.val (.int p1), .val (.int p2), .val (.int p3), .val (.int p4), .val (.int p5), .val (.int (0 : Int32)), .val (.int v3), .unset, .unset, .unset, .unset, .unset, .unset, .unset, .unset, .unset, .unset, .unset] [])) _
      refine XS.iloadN X0.here hx rfl (hb hby at_22) rfl ?_
      show Steps p.tables e below (s₁.setTop (mkF m 23 #[.val (.int p1), .val (.int p2), .val (.int p3), .val (.int p4), .val (.int p5), .val (.int (0 : Int32)), .val (.int v3), .unset, .unset, .unset, .unset, .unset, .unset, .unset, .unset, .unset, .unset, .unset] [(.int p1)])) _
      refine XS.bipush X0.here hx rfl (hb hby at_23) ?_
      show Steps p.tables e below (s₁.setTop (mkF m 25 #[.val (.int p1), .val (.int p2), .val (.int p3), .val (.int p4), .val (.int p5), .val (.int (0 : Int32)), .val (.int v3), .unset, .unset, .unset, .unset, .unset, .unset, .unset, .unset, .unset, .unset, .unset] [(.int (8 : Int32)), (.int p1)])) _
      refine XS.iushr X0.here hx rfl (hb hby at_25) rfl ?_
      show Steps p.tables e below (s₁.setTop (mkF m 26 #[.val (.int p1), .val (.int p2), .val (.int p3), .val (.int p4), .val (.int p5), .val (.int (0 : Int32)), .val (.int v3), .unset, .unset, .unset, .unset, .unset, .unset, .unset, .unset, .unset, .unset, .unset] [(.int ((p1.toUInt32 >>> ((8 : Int32) &&& 31).toUInt32).toInt32))])) _
      refine XS.sipush X0.here hx rfl (hb hby at_26) ?_
      show Steps p.tables e below (s₁.setTop (mkF m 29 #[.val (.int p1), .val (.int p2), .val (.int p3), .val (.int p4), .val (.int p5), .val (.int (0 : Int32)), .val (.int v3), .unset, .unset, .unset, .unset, .unset, .unset, .unset, .unset, .unset, .unset, .unset] [(.int (255 : Int32)), (.int ((p1.toUInt32 >>> ((8 : Int32) &&& 31).toUInt32).toInt32))])) _
      refine XS.iand X0.here hx rfl (hb hby at_29) rfl ?_
      show Steps p.tables e below (s₁.setTop (mkF m 30 #[.val (.int p1), .val (.int p2), .val (.int p3), .val (.int p4), .val (.int p5), .val (.int (0 : Int32)), .val (.int v3), .unset, .unset, .unset, .unset, .unset, .unset, .unset, .unset, .unset, .unset, .unset] [(.int (((p1.toUInt32 >>> ((8 : Int32) &&& 31).toUInt32).toInt32) &&& (255 : Int32)))])) _
      refine XS.i2c X0.here hx rfl (hb hby at_30) rfl ?_
      exact ktx
    obtain ⟨v5, hv_v5⟩ : ∃ z : Int32, z = ((((p1.toUInt32 >>> ((8 : Int32) &&& 31).toUInt32).toInt32) &&& (255 : Int32)).toUInt32.toUInt16.toUInt32.toInt32) := ⟨_, rfl⟩
    obtain ⟨T6, h6, k6, X6, e6, E6, A6, st6⟩ := newP X0 hx hZ (hw _ (List.mem_of_getElem? (i := 0) rfl)) e0 (g := (mkF m 34 #[.val (.int p1), .val (.int p2), .val (.int p3), .val (.int p4), .val (.int p5), .val (.int (0 : Int32)), .val (.int v3), .val (.int v5), .unset, .unset, .unset, .unset, .unset, .unset, .unset, .unset, .unset, .unset] [(.int (2 : Int32))])) rfl (hb hby at_34) rfl (by decide) (cap := 2) (by decide) (by decide) (by decide) (by decide)
    obtain ⟨b6, g6⟩ : ∃ z, z = h0.size := ⟨_, rfl⟩
    rw [← g6] at A6 st6
    have g_b6 : n0 ≤ b6 := Nat.le_trans Z0 (Nat.le_of_eq g6.symm)
    have Z6 : n0 ≤ h6.size := Nat.le_trans Z0 E6.1
    have O6 := O0.ext E6
    have V6 : Arv Z h6 b6 k6 .char (2 : Int32) [(.int (0 : Int32)), (.int (0 : Int32))] (.int (0 : Int32)) := (Arv.new A6 (by decide)).pad (pad_rep [] (.int (0 : Int32)) 2)
    obtain ⟨cl7, Ar7, q7, S7, M7, H7, G7⟩ := id V6
    have hin7 : ¬ ((0 : Int32) < 0 ∨ cl7.slots.size ≤ ((0 : Int32)).toNatClampNeg) := inb_of S7 ⟨by decide, by decide⟩
    obtain ⟨T8, h8, X8, e8, W8, st8⟩ := stC X6 hx hZ e6 Ar7 (j := (0 : Int32)) hin7 (g := (mkF m 40 #[.val (.int p1), .val (.int p2), .val (.int p3), .val (.int p4), .val (.int p5), .val (.int (0 : Int32)), .val (.int v3), .val (.int v5), .unset, .unset, .unset, .unset, .unset, .unset, .unset, .unset, .unset, .unset] [(.int v3), (.int (0 : Int32)), (.ref b6), (.ref b6)])) rfl rfl (hb hby at_40)
    have Z8 : n0 ≤ h8.size := Nat.le_trans Z6 (Nat.le_of_eq W8.size.symm)
    have O8 := O6.wr W8 g_b6
    have N8 := Fr.snoc X8 N0 g_b6
    have V8 : Arv Z h8 b6 k6 .char (2 : Int32) [(.int (nar .char v3)), (.int (0 : Int32))] (.int (0 : Int32)) := Arv.set Ar7 q7 S7 M7 H7 G7 (fits_nar_char _) W8 0 rfl (Nat.le_of_ble_eq_true rfl)
    obtain ⟨cl9, Ar9, q9, S9, M9, H9, G9⟩ := id V8
    have hin9 : ¬ ((1 : Int32) < 0 ∨ cl9.slots.size ≤ ((1 : Int32)).toNatClampNeg) := inb_of S9 ⟨by decide, by decide⟩
    obtain ⟨T10, h10, X10, e10, W10, st10⟩ := stC X8 hx hZ e8 Ar9 (j := (1 : Int32)) hin9 (g := (mkF m 45 #[.val (.int p1), .val (.int p2), .val (.int p3), .val (.int p4), .val (.int p5), .val (.int (0 : Int32)), .val (.int v3), .val (.int v5), .unset, .unset, .unset, .unset, .unset, .unset, .unset, .unset, .unset, .unset] [(.int v5), (.int (1 : Int32)), (.ref b6), (.ref b6)])) rfl rfl (hb hby at_45)
    have Z10 : n0 ≤ h10.size := Nat.le_trans Z8 (Nat.le_of_eq W10.size.symm)
    have O10 := O8.wr W10 g_b6
    have N10 := Fr.snoc X10 N8 g_b6
    have V10 : Arv Z h10 b6 k6 .char (2 : Int32) [(.int (nar .char v3)), (.int (nar .char v5))] (.int (0 : Int32)) := Arv.set Ar9 q9 S9 M9 H9 G9 (fits_nar_char _) W10 1 rfl (Nat.le_of_ble_eq_true rfl)
    obtain ⟨T11, h11, k11, X11, e11, E11, A11, st11⟩ := newP X10 hx hZ (hw _ (List.mem_of_getElem? (i := 0) rfl)) e10 (g := (mkF m 49 #[.val (.int p1), .val (.int p2), .val (.int p3), .val (.int p4), .val (.int p5), .val (.int (0 : Int32)), .val (.int v3), .val (.int v5), .val (.ref b6), .unset, .unset, .unset, .unset, .unset, .unset, .unset, .unset, .unset] [(.int (2 : Int32))])) rfl (hb hby at_49) rfl (by decide) (cap := 2) (by decide) (by decide) (by decide) (by decide)
    obtain ⟨b11, g11⟩ : ∃ z, z = h10.size := ⟨_, rfl⟩
    rw [← g11] at A11 st11
    have ne12 : b6 ≠ b11 := Nat.ne_of_lt (Nat.lt_of_lt_of_le V10.lt (Nat.le_of_eq g11.symm))
    have g_b11 : n0 ≤ b11 := Nat.le_trans Z10 (Nat.le_of_eq g11.symm)
    have Z11 : n0 ≤ h11.size := Nat.le_trans Z10 E11.1
    have O11 := O10.ext E11
    have V11 : Arv Z h11 b11 k11 .char (2 : Int32) [(.int (0 : Int32)), (.int (0 : Int32))] (.int (0 : Int32)) := (Arv.new A11 (by decide)).pad (pad_rep [] (.int (0 : Int32)) 2)
    have go13 : own_go p e below (s₁.setTop (entryFrame m #[(.int p1), (.int p2), (.int p3), (.int p4), (.int p5)] maxLocals)) (T11.setTop (mkF m 51 #[.val (.int p1), .val (.int p2), .val (.int p3), .val (.int p4), .val (.int p5), .val (.int (0 : Int32)), .val (.int v3), .val (.int v5), .val (.ref b6), .unset, .unset, .unset, .unset, .unset, .unset, .unset, .unset, .unset] [(.ref b11)])) := by
      intro ttx ktx
      refine go4 ttx ?_
      show Steps p.tables e below (s₁.setTop (mkF m 31 #[.val (.int p1), .val (.int p2), .val (.int p3), .val (.int p4), .val (.int p5), .val (.int (0 : Int32)), .val (.int v3), .unset, .unset, .unset, .unset, .unset, .unset, .unset, .unset, .unset, .unset, .unset] [(.int ((((p1.toUInt32 >>> ((8 : Int32) &&& 31).toUInt32).toInt32) &&& (255 : Int32)).toUInt32.toUInt16.toUInt32.toInt32))])) _
      rw [← hv_v5]
      show Steps p.tables e below (s₁.setTop (mkF m 31 #[.val (.int p1), .val (.int p2), .val (.int p3), .val (.int p4), .val (.int p5), .val (.int (0 : Int32)), .val (.int v3), .unset, .unset, .unset, .unset, .unset, .unset, .unset, .unset, .unset, .unset, .unset] [(.int v5)])) _
      refine XS.istore X0.here hx rfl (hb hby at_31) rfl (l' := #[.val (.int p1), .val (.int p2), .val (.int p3), .val (.int p4), .val (.int p5), .val (.int (0 : Int32)), .val (.int v3), .val (.int v5), .unset, .unset, .unset, .unset, .unset, .unset, .unset, .unset, .unset, .unset]) rfl ?_
      show Steps p.tables e below (s₁.setTop (mkF m 33 #[.val (.int p1), .val (.int p2), .val (.int p3), .val (.int p4), .val (.int p5), .val (.int (0 : Int32)), .val (.int v3), .val (.int v5), .unset, .unset, .unset, .unset, .unset, .unset, .unset, .unset, .unset, .unset] [])) _
      refine XS.iconst X0.here hx rfl (hb hby at_33) ?_
      show Steps p.tables e below (s₁.setTop (mkF m 34 #[.val (.int p1), .val (.int p2), .val (.int p3), .val (.int p4), .val (.int p5), .val (.int (0 : Int32)), .val (.int v3), .val (.int v5), .unset, .unset, .unset, .unset, .unset, .unset, .unset, .unset, .unset, .unset] [(.int (2 : Int32))])) _
      refine st6 _ ?_
      show Steps p.tables e below (T6.setTop (mkF m 36 #[.val (.int p1), .val (.int p2), .val (.int p3), .val (.int p4), .val (.int p5), .val (.int (0 : Int32)), .val (.int v3), .val (.int v5), .unset, .unset, .unset, .unset, .unset, .unset, .unset, .unset, .unset, .unset] [(.ref b6)])) _
      refine XS.dup X6.here hx rfl (hb hby at_36) rfl rfl ?_
      show Steps p.tables e below (T6.setTop (mkF m 37 #[.val (.int p1), .val (.int p2), .val (.int p3), .val (.int p4), .val (.int p5), .val (.int (0 : Int32)), .val (.int v3), .val (.int v5), .unset, .unset, .unset, .unset, .unset, .unset, .unset, .unset, .unset, .unset] [(.ref b6), (.ref b6)])) _
      refine XS.iconst X6.here hx rfl (hb hby at_37) ?_
      show Steps p.tables e below (T6.setTop (mkF m 38 #[.val (.int p1), .val (.int p2), .val (.int p3), .val (.int p4), .val (.int p5), .val (.int (0 : Int32)), .val (.int v3), .val (.int v5), .unset, .unset, .unset, .unset, .unset, .unset, .unset, .unset, .unset, .unset] [(.int (0 : Int32)), (.ref b6), (.ref b6)])) _
      refine XS.iload X6.here hx rfl (hb hby at_38) rfl ?_
      show Steps p.tables e below (T6.setTop (mkF m 40 #[.val (.int p1), .val (.int p2), .val (.int p3), .val (.int p4), .val (.int p5), .val (.int (0 : Int32)), .val (.int v3), .val (.int v5), .unset, .unset, .unset, .unset, .unset, .unset, .unset, .unset, .unset, .unset] [(.int v3), (.int (0 : Int32)), (.ref b6), (.ref b6)])) _
      refine st8 _ ?_
      show Steps p.tables e below (T8.setTop (mkF m 41 #[.val (.int p1), .val (.int p2), .val (.int p3), .val (.int p4), .val (.int p5), .val (.int (0 : Int32)), .val (.int v3), .val (.int v5), .unset, .unset, .unset, .unset, .unset, .unset, .unset, .unset, .unset, .unset] [(.ref b6)])) _
      refine XS.dup X8.here hx rfl (hb hby at_41) rfl rfl ?_
      show Steps p.tables e below (T8.setTop (mkF m 42 #[.val (.int p1), .val (.int p2), .val (.int p3), .val (.int p4), .val (.int p5), .val (.int (0 : Int32)), .val (.int v3), .val (.int v5), .unset, .unset, .unset, .unset, .unset, .unset, .unset, .unset, .unset, .unset] [(.ref b6), (.ref b6)])) _
      refine XS.iconst X8.here hx rfl (hb hby at_42) ?_
      show Steps p.tables e below (T8.setTop (mkF m 43 #[.val (.int p1), .val (.int p2), .val (.int p3), .val (.int p4), .val (.int p5), .val (.int (0 : Int32)), .val (.int v3), .val (.int v5), .unset, .unset, .unset, .unset, .unset, .unset, .unset, .unset, .unset, .unset] [(.int (1 : Int32)), (.ref b6), (.ref b6)])) _
      refine XS.iload X8.here hx rfl (hb hby at_43) rfl ?_
      show Steps p.tables e below (T8.setTop (mkF m 45 #[.val (.int p1), .val (.int p2), .val (.int p3), .val (.int p4), .val (.int p5), .val (.int (0 : Int32)), .val (.int v3), .val (.int v5), .unset, .unset, .unset, .unset, .unset, .unset, .unset, .unset, .unset, .unset] [(.int v5), (.int (1 : Int32)), (.ref b6), (.ref b6)])) _
      refine st10 _ ?_
      show Steps p.tables e below (T10.setTop (mkF m 46 #[.val (.int p1), .val (.int p2), .val (.int p3), .val (.int p4), .val (.int p5), .val (.int (0 : Int32)), .val (.int v3), .val (.int v5), .unset, .unset, .unset, .unset, .unset, .unset, .unset, .unset, .unset, .unset] [(.ref b6)])) _
      refine XS.astore X10.here hx rfl (hb hby at_46) rfl rfl (l' := #[.val (.int p1), .val (.int p2), .val (.int p3), .val (.int p4), .val (.int p5), .val (.int (0 : Int32)), .val (.int v3), .val (.int v5), .val (.ref b6), .unset, .unset, .unset, .unset, .unset, .unset, .unset, .unset, .unset]) rfl ?_
      show Steps p.tables e below (T10.setTop (mkF m 48 #[.val (.int p1), .val (.int p2), .val (.int p3), .val (.int p4), .val (.int p5), .val (.int (0 : Int32)), .val (.int v3), .val (.int v5), .val (.ref b6), .unset, .unset, .unset, .unset, .unset, .unset, .unset, .unset, .unset] [])) _
      refine XS.iconst X10.here hx rfl (hb hby at_48) ?_
      show Steps p.tables e below (T10.setTop (mkF m 49 #[.val (.int p1), .val (.int p2), .val (.int p3), .val (.int p4), .val (.int p5), .val (.int (0 : Int32)), .val (.int v3), .val (.int v5), .val (.ref b6), .unset, .unset, .unset, .unset, .unset, .unset, .unset, .unset, .unset] [(.int (2 : Int32))])) _
      refine st11 _ ?_
      exact ktx
    obtain ⟨cl14, Ar14, q14, S14, M14, H14, G14⟩ := id V11
    have hin14 : ¬ ((0 : Int32) < 0 ∨ cl14.slots.size ≤ ((0 : Int32)).toNatClampNeg) := inb_of S14 ⟨by decide, by decide⟩
    obtain ⟨T15, h15, X15, e15, W15, st15⟩ := stC X11 hx hZ e11 Ar14 (j := (0 : Int32)) hin14 (g := (mkF m 59 #[.val (.int p1), .val (.int p2), .val (.int p3), .val (.int p4), .val (.int p5), .val (.int (0 : Int32)), .val (.int v3), .val (.int v5), .val (.ref b6), .unset, .unset, .unset, .unset, .unset, .unset, .unset, .unset, .unset] [(.int ((p2 &&& (255 : Int32)).toUInt32.toUInt16.toUInt32.toInt32)), (.int (0 : Int32)), (.ref b11), (.ref b11)])) rfl rfl (hb hby at_59)
    have Z15 : n0 ≤ h15.size := Nat.le_trans Z11 (Nat.le_of_eq W15.size.symm)
    have O15 := O11.wr W15 g_b11
    have N15 := Fr.snoc X15 N10 g_b11
    have V15 : Arv Z h15 b11 k11 .char (2 : Int32) [(.int (nar .char ((p2 &&& (255 : Int32)).toUInt32.toUInt16.toUInt32.toInt32))), (.int (0 : Int32))] (.int (0 : Int32)) := Arv.set Ar14 q14 S14 M14 H14 G14 (fits_nar_char _) W15 0 rfl (Nat.le_of_ble_eq_true rfl)
    have go16 : own_go p e below (s₁.setTop (entryFrame m #[(.int p1), (.int p2), (.int p3), (.int p4), (.int p5)] maxLocals)) (T15.setTop (mkF m 71 #[.val (.int p1), .val (.int p2), .val (.int p3), .val (.int p4), .val (.int p5), .val (.int (0 : Int32)), .val (.int v3), .val (.int v5), .val (.ref b6), .unset, .unset, .unset, .unset, .unset, .unset, .unset, .unset, .unset] [(.int ((((p2.toUInt32 >>> ((8 : Int32) &&& 31).toUInt32).toInt32) &&& (255 : Int32)).toUInt32.toUInt16.toUInt32.toInt32)), (.int (1 : Int32)), (.ref b11), (.ref b11)])) := by
      intro ttx ktx
      refine go13 ttx ?_
      show Steps p.tables e below (T11.setTop (mkF m 51 #[.val (.int p1), .val (.int p2), .val (.int p3), .val (.int p4), .val (.int p5), .val (.int (0 : Int32)), .val (.int v3), .val (.int v5), .val (.ref b6), .unset, .unset, .unset, .unset, .unset, .unset, .unset, .unset, .unset] [(.ref b11)])) _
      refine XS.dup X11.here hx rfl (hb hby at_51) rfl rfl ?_
      show Steps p.tables e below (T11.setTop (mkF m 52 #[.val (.int p1), .val (.int p2), .val (.int p3), .val (.int p4), .val (.int p5), .val (.int (0 : Int32)), .val (.int v3), .val (.int v5), .val (.ref b6), .unset, .unset, .unset, .unset, .unset, .unset, .unset, .unset, .unset] [(.ref b11), (.ref b11)])) _
      refine XS.iconst X11.here hx rfl (hb hby at_52) ?_
      show Steps p.tables e below (T11.setTop (mkF m 53 #[.val (.int p1), .val (.int p2), .val (.int p3), .val (.int p4), .val (.int p5), .val (.int (0 : Int32)), .val (.int v3), .val (.int v5), .val (.ref b6), .unset, .unset, .unset, .unset, .unset, .unset, .unset, .unset, .unset] [(.int (0 : Int32)), (.ref b11), (.ref b11)])) _
      refine XS.iloadN X11.here hx rfl (hb hby at_53) rfl ?_
      show Steps p.tables e below (T11.setTop (mkF m 54 #[.val (.int p1), .val (.int p2), .val (.int p3), .val (.int p4), .val (.int p5), .val (.int (0 : Int32)), .val (.int v3), .val (.int v5), .val (.ref b6), .unset, .unset, .unset, .unset, .unset, .unset, .unset, .unset, .unset] [(.int p2), (.int (0 : Int32)), (.ref b11), (.ref b11)])) _
      refine XS.sipush X11.here hx rfl (hb hby at_54) ?_
      show Steps p.tables e below (T11.setTop (mkF m 57 #[.val (.int p1), .val (.int p2), .val (.int p3), .val (.int p4), .val (.int p5), .val (.int (0 : Int32)), .val (.int v3), .val (.int v5), .val (.ref b6), .unset, .unset, .unset, .unset, .unset, .unset, .unset, .unset, .unset] [(.int (255 : Int32)), (.int p2), (.int (0 : Int32)), (.ref b11), (.ref b11)])) _
      refine XS.iand X11.here hx rfl (hb hby at_57) rfl ?_
      show Steps p.tables e below (T11.setTop (mkF m 58 #[.val (.int p1), .val (.int p2), .val (.int p3), .val (.int p4), .val (.int p5), .val (.int (0 : Int32)), .val (.int v3), .val (.int v5), .val (.ref b6), .unset, .unset, .unset, .unset, .unset, .unset, .unset, .unset, .unset] [(.int (p2 &&& (255 : Int32))), (.int (0 : Int32)), (.ref b11), (.ref b11)])) _
      refine XS.i2c X11.here hx rfl (hb hby at_58) rfl ?_
      show Steps p.tables e below (T11.setTop (mkF m 59 #[.val (.int p1), .val (.int p2), .val (.int p3), .val (.int p4), .val (.int p5), .val (.int (0 : Int32)), .val (.int v3), .val (.int v5), .val (.ref b6), .unset, .unset, .unset, .unset, .unset, .unset, .unset, .unset, .unset] [(.int ((p2 &&& (255 : Int32)).toUInt32.toUInt16.toUInt32.toInt32)), (.int (0 : Int32)), (.ref b11), (.ref b11)])) _
      refine st15 _ ?_
      show Steps p.tables e below (T15.setTop (mkF m 60 #[.val (.int p1), .val (.int p2), .val (.int p3), .val (.int p4), .val (.int p5), .val (.int (0 : Int32)), .val (.int v3), .val (.int v5), .val (.ref b6), .unset, .unset, .unset, .unset, .unset, .unset, .unset, .unset, .unset] [(.ref b11)])) _
      refine XS.dup X15.here hx rfl (hb hby at_60) rfl rfl ?_
      show Steps p.tables e below (T15.setTop (mkF m 61 #[.val (.int p1), .val (.int p2), .val (.int p3), .val (.int p4), .val (.int p5), .val (.int (0 : Int32)), .val (.int v3), .val (.int v5), .val (.ref b6), .unset, .unset, .unset, .unset, .unset, .unset, .unset, .unset, .unset] [(.ref b11), (.ref b11)])) _
      refine XS.iconst X15.here hx rfl (hb hby at_61) ?_
      show Steps p.tables e below (T15.setTop (mkF m 62 #[.val (.int p1), .val (.int p2), .val (.int p3), .val (.int p4), .val (.int p5), .val (.int (0 : Int32)), .val (.int v3), .val (.int v5), .val (.ref b6), .unset, .unset, .unset, .unset, .unset, .unset, .unset, .unset, .unset] [(.int (1 : Int32)), (.ref b11), (.ref b11)])) _
      refine XS.iloadN X15.here hx rfl (hb hby at_62) rfl ?_
      show Steps p.tables e below (T15.setTop (mkF m 63 #[.val (.int p1), .val (.int p2), .val (.int p3), .val (.int p4), .val (.int p5), .val (.int (0 : Int32)), .val (.int v3), .val (.int v5), .val (.ref b6), .unset, .unset, .unset, .unset, .unset, .unset, .unset, .unset, .unset] [(.int p2), (.int (1 : Int32)), (.ref b11), (.ref b11)])) _
      refine XS.bipush X15.here hx rfl (hb hby at_63) ?_
      show Steps p.tables e below (T15.setTop (mkF m 65 #[.val (.int p1), .val (.int p2), .val (.int p3), .val (.int p4), .val (.int p5), .val (.int (0 : Int32)), .val (.int v3), .val (.int v5), .val (.ref b6), .unset, .unset, .unset, .unset, .unset, .unset, .unset, .unset, .unset] [(.int (8 : Int32)), (.int p2), (.int (1 : Int32)), (.ref b11), (.ref b11)])) _
      refine XS.iushr X15.here hx rfl (hb hby at_65) rfl ?_
      show Steps p.tables e below (T15.setTop (mkF m 66 #[.val (.int p1), .val (.int p2), .val (.int p3), .val (.int p4), .val (.int p5), .val (.int (0 : Int32)), .val (.int v3), .val (.int v5), .val (.ref b6), .unset, .unset, .unset, .unset, .unset, .unset, .unset, .unset, .unset] [(.int ((p2.toUInt32 >>> ((8 : Int32) &&& 31).toUInt32).toInt32)), (.int (1 : Int32)), (.ref b11), (.ref b11)])) _
      refine XS.sipush X15.here hx rfl (hb hby at_66) ?_
      show Steps p.tables e below (T15.setTop (mkF m 69 #[.val (.int p1), .val (.int p2), .val (.int p3), .val (.int p4), .val (.int p5), .val (.int (0 : Int32)), .val (.int v3), .val (.int v5), .val (.ref b6), .unset, .unset, .unset, .unset, .unset, .unset, .unset, .unset, .unset] [(.int (255 : Int32)), (.int ((p2.toUInt32 >>> ((8 : Int32) &&& 31).toUInt32).toInt32)), (.int (1 : Int32)), (.ref b11), (.ref b11)])) _
      refine XS.iand X15.here hx rfl (hb hby at_69) rfl ?_
      show Steps p.tables e below (T15.setTop (mkF m 70 #[.val (.int p1), .val (.int p2), .val (.int p3), .val (.int p4), .val (.int p5), .val (.int (0 : Int32)), .val (.int v3), .val (.int v5), .val (.ref b6), .unset, .unset, .unset, .unset, .unset, .unset, .unset, .unset, .unset] [(.int (((p2.toUInt32 >>> ((8 : Int32) &&& 31).toUInt32).toInt32) &&& (255 : Int32))), (.int (1 : Int32)), (.ref b11), (.ref b11)])) _
      refine XS.i2c X15.here hx rfl (hb hby at_70) rfl ?_
      exact ktx
    obtain ⟨cl17, Ar17, q17, S17, M17, H17, G17⟩ := id V15
    have hin17 : ¬ ((1 : Int32) < 0 ∨ cl17.slots.size ≤ ((1 : Int32)).toNatClampNeg) := inb_of S17 ⟨by decide, by decide⟩
    obtain ⟨T18, h18, X18, e18, W18, st18⟩ := stC X15 hx hZ e15 Ar17 (j := (1 : Int32)) hin17 (g := (mkF m 71 #[.val (.int p1), .val (.int p2), .val (.int p3), .val (.int p4), .val (.int p5), .val (.int (0 : Int32)), .val (.int v3), .val (.int v5), .val (.ref b6), .unset, .unset, .unset, .unset, .unset, .unset, .unset, .unset, .unset] [(.int ((((p2.toUInt32 >>> ((8 : Int32) &&& 31).toUInt32).toInt32) &&& (255 : Int32)).toUInt32.toUInt16.toUInt32.toInt32)), (.int (1 : Int32)), (.ref b11), (.ref b11)])) rfl rfl (hb hby at_71)
    have Z18 : n0 ≤ h18.size := Nat.le_trans Z15 (Nat.le_of_eq W18.size.symm)
    have O18 := O15.wr W18 g_b11
    have N18 := Fr.snoc X18 N15 g_b11
    have V18 : Arv Z h18 b11 k11 .char (2 : Int32) [(.int (nar .char ((p2 &&& (255 : Int32)).toUInt32.toUInt16.toUInt32.toInt32))), (.int (nar .char ((((p2.toUInt32 >>> ((8 : Int32) &&& 31).toUInt32).toInt32) &&& (255 : Int32)).toUInt32.toUInt16.toUInt32.toInt32)))] (.int (0 : Int32)) := Arv.set Ar17 q17 S17 M17 H17 G17 (fits_nar_char _) W18 1 rfl (Nat.le_of_ble_eq_true rfl)
    obtain ⟨_, _, ⟨T19, L19, k19, n19⟩, -, X19, ⟨Lc19, hQ19, l19, y19, z19⟩, st19⟩ := Jvm.LawKit.callS X18 hx (y := (⟨"io/subjectwire/auth/CredentialsToStringPinLaw", "drawn", "(I)Ljava/lang/String;"⟩ : MethodName)) hown (mvT hZ (hw _ (List.mem_of_getElem? (i := 1) rfl))) (mvT hZ (hw _ (List.mem_of_getElem? (i := 2) rfl))) (mvT hZ (hw _ (List.mem_of_getElem? (i := 3) rfl))) (mvT hZ (hw _ (List.mem_of_getElem? (i := 4) rfl))) (by decide) (backOf (W := 0) (rm1 l Z a0 hw [] p3 G1 h18 n0 Z18 O2 P5 O18) hZ (hw _ (List.mem_of_getElem? (i := 4) rfl)) (hw _ (List.mem_of_getElem? (i := 3) rfl)) (by decide) (by decide)) (g := (mkF m 75 #[.val (.int p1), .val (.int p2), .val (.int p3), .val (.int p4), .val (.int p5), .val (.int (0 : Int32)), .val (.int v3), .val (.int v5), .val (.ref b6), .val (.ref b11), .unset, .unset, .unset, .unset, .unset, .unset, .unset, .unset] [(.int p3)])) rfl (by rw [hml]; rfl) (argsL := [(.int p3)]) (rest := []) (lenOf own_pd2 rfl) rfl (by show 2 * 0 + _ ≤ _; exact Nat.le_of_eq rfl) (hb hby at_75) (fun _ _ => ⟨rfl, e18, (by decide : 2 + 3 ≤ _), (by decide : 4 + 8 ≤ _)⟩)
    dsimp only [Pt.U, Pt.locs, Pt.cells, Pt.slots] at X19 l19 y19 z19 st19 hQ19
    subst l19 y19 z19
    obtain ⟨r19, rfl, Nq19, Kq19⟩ := hQ19
    have N19 := Fr.app N18 Nq19
    have Z19 : n0 ≤ T19.heap.size := Nat.le_trans Z18 Kq19.1
    have O19 := O18.keep Kq19 all0
    obtain ⟨_, _, ⟨T20, L20, k20, n20⟩, -, X20, ⟨Lc20, hQ20, l20, y20, z20⟩, st20⟩ := Jvm.LawKit.callS X19 hx (y := (⟨"io/subjectwire/auth/CredentialsToStringPinLaw", "drawn", "(I)Ljava/lang/String;"⟩ : MethodName)) hown (mvT hZ (hw _ (List.mem_of_getElem? (i := 1) rfl))) (mvT hZ (hw _ (List.mem_of_getElem? (i := 2) rfl))) (mvT hZ (hw _ (List.mem_of_getElem? (i := 3) rfl))) (mvT hZ (hw _ (List.mem_of_getElem? (i := 4) rfl))) (by decide) (backOf (W := 0) (rm1 l Z a0 hw [] p4 G1 T19.heap n0 Z19 O2 P5 O19) hZ (hw _ (List.mem_of_getElem? (i := 4) rfl)) (hw _ (List.mem_of_getElem? (i := 3) rfl)) (by decide) (by decide)) (g := (mkF m 81 #[.val (.int p1), .val (.int p2), .val (.int p3), .val (.int p4), .val (.int p5), .val (.int (0 : Int32)), .val (.int v3), .val (.int v5), .val (.ref b6), .val (.ref b11), .val (.ref r19), .unset, .unset, .unset, .unset, .unset, .unset, .unset] [(.int p4)])) rfl (by rw [hml]; rfl) (argsL := [(.int p4)]) (rest := []) (lenOf own_pd2 rfl) rfl (by show 2 * 0 + _ ≤ _; exact Nat.le_of_eq rfl) (hb hby at_81) (fun _ _ => ⟨rfl, rfl, (by decide : 5 + 3 ≤ _), (by decide : 12 + 8 ≤ _)⟩)
    dsimp only [Pt.U, Pt.locs, Pt.cells, Pt.slots] at X20 l20 y20 z20 st20 hQ20
    subst l20 y20 z20
    obtain ⟨r20, rfl, Nq20, Kq20⟩ := hQ20
    have N20 := Fr.app N19 Nq20
    have Z20 : n0 ≤ T20.heap.size := Nat.le_trans Z19 Kq20.1
    have O20 := O19.keep Kq20 all0
    obtain ⟨T21, h21, X21, e21, E21, A21, D21, -, st21⟩ := newO X20 hx hZ hown (hw _ (List.mem_of_getElem? (i := 34) rfl)) (hw _ (List.mem_of_getElem? (i := 35) rfl)) (hw _ (List.mem_of_getElem? (i := 36) rfl)) rfl (g := (mkF m 86 #[.val (.int p1), .val (.int p2), .val (.int p3), .val (.int p4), .val (.int p5), .val (.int (0 : Int32)), .val (.int v3), .val (.int v5), .val (.ref b6), .val (.ref b11), .val (.ref r19), .val (.ref r20), .unset, .unset, .unset, .unset, .unset, .unset] [])) rfl (hb hby at_86) (by decide) (by decide)
    obtain ⟨b21, g21⟩ : ∃ z, z = T20.heap.size := ⟨_, rfl⟩
    rw [← g21] at A21 D21 st21
    have f23 := (((((V10.ext E11).other W15 ne12).other W18 ne12).keep Kq19 nin0).keep Kq20 nin0)
    have ne22 : b6 ≠ b21 := Nat.ne_of_lt (Nat.lt_of_lt_of_le f23.lt (Nat.le_of_eq g21.symm))
    have f25 := ((V18.keep Kq19 nin0).keep Kq20 nin0)
    have ne24 : b11 ≠ b21 := Nat.ne_of_lt (Nat.lt_of_lt_of_le f25.lt (Nat.le_of_eq g21.symm))
    have g_b21 : n0 ≤ b21 := Nat.le_trans Z20 (Nat.le_of_eq g21.symm)
    have Z21 : n0 ≤ h21.size := Nat.le_trans Z20 E21.1
    have O21 := O20.ext E21
    have F21_jwt : Fld Z h21 b21 "io/subjectwire/auth/Credentials" "jwt" "Ljava/lang/String;" .null := D21 (Or.inr (hw _ (List.mem_of_getElem? (i := 42) rfl))) (ty := (.object "java/lang/String")) (by decide)
    have F21_seed : Fld Z h21 b21 "io/subjectwire/auth/Credentials" "seed" "[C" .null := D21 (Or.inr (hw _ (List.mem_of_getElem? (i := 44) rfl))) (ty := (.array .char)) (by decide)
    have hc26_92 : (0 : Int32) = (0 : Int32) := (by decide)
    obtain ⟨_, _, ⟨T27, L27, k27, n27⟩, -, X27, ⟨Lc27, hQ27, l27, y27, z27⟩, st27⟩ := X21.specialBack hx (y := (⟨"io/subjectwire/auth/Credentials", "<init>", "(Ljava/lang/String;[C)V"⟩ : MethodName)) rfl hown (mvT hZ (hw _ (List.mem_of_getElem? (i := 37) rfl))) (mvT hZ (hw _ (List.mem_of_getElem? (i := 38) rfl))) (mvT hZ (hw _ (List.mem_of_getElem? (i := 39) rfl))) (by decide) (backOf (W := 1) (rm8n l Z a0 hw [] b21 b6  h21 n0 Z21 A21 g_b21 F21_jwt F21_seed) hZ (hw _ (List.mem_of_getElem? (i := 39) rfl)) (hw _ (List.mem_of_getElem? (i := 36) rfl)) (by decide) (by decide)) (g := (mkF m 103 #[.val (.int p1), .val (.int p2), .val (.int p3), .val (.int p4), .val (.int p5), .val (.int (0 : Int32)), .val (.int v3), .val (.int v5), .val (.ref b6), .val (.ref b11), .val (.ref r19), .val (.ref r20), .unset, .unset, .unset, .unset, .unset, .unset] [(.ref b6), .null, (.ref b21), (.ref b21)])) rfl (by rw [hml]; rfl) (Steps.refl _) (a := b21) (argsL := [.null, (.ref b6)]) (rest := [(.ref b21)]) (lenOf own_pd3 rfl) rfl (by show 2 * 0 + _ ≤ _; exact Nat.le_of_eq rfl) (hb hby at_103) (fun _ _ => ⟨rfl, e21, (by decide : 9 + 0 ≤ _), (by decide : 22 + 0 ≤ _)⟩)
    dsimp only [Pt.U, Pt.locs, Pt.cells, Pt.slots] at X27 l27 y27 z27 st27 hQ27
    subst l27 y27 z27
    obtain ⟨rfl, Nq27, Kq27, Eq27, Fq27_jwt, Fq27_seed⟩ := hQ27
    have N27 := Fr.app N20 Nq27
    have Z27 : n0 ≤ T27.heap.size := Nat.le_trans Z21 Kq27.1
    have O27 := O21.keep Kq27 (allS g_b21 all0)
    have go28 : own_go p e below (s₁.setTop (entryFrame m #[(.int p1), (.int p2), (.int p3), (.int p4), (.int p5)] maxLocals)) (T27.setTop (mkF m 106 #[.val (.int p1), .val (.int p2), .val (.int p3), .val (.int p4), .val (.int p5), .val (.int (0 : Int32)), .val (.int v3), .val (.int v5), .val (.ref b6), .val (.ref b11), .val (.ref r19), .val (.ref r20), .unset, .unset, .unset, .unset, .unset, .unset] [(.ref b21)])) := by
      intro ttx ktx
      refine go16 ttx ?_
      show Steps p.tables e below (T15.setTop (mkF m 71 #[.val (.int p1), .val (.int p2), .val (.int p3), .val (.int p4), .val (.int p5), .val (.int (0 : Int32)), .val (.int v3), .val (.int v5), .val (.ref b6), .unset, .unset, .unset, .unset, .unset, .unset, .unset, .unset, .unset] [(.int ((((p2.toUInt32 >>> ((8 : Int32) &&& 31).toUInt32).toInt32) &&& (255 : Int32)).toUInt32.toUInt16.toUInt32.toInt32)), (.int (1 : Int32)), (.ref b11), (.ref b11)])) _
      refine st18 _ ?_
      show Steps p.tables e below (T18.setTop (mkF m 72 #[.val (.int p1), .val (.int p2), .val (.int p3), .val (.int p4), .val (.int p5), .val (.int (0 : Int32)), .val (.int v3), .val (.int v5), .val (.ref b6), .unset, .unset, .unset, .unset, .unset, .unset, .unset, .unset, .unset] [(.ref b11)])) _
      refine XS.astore X18.here hx rfl (hb hby at_72) rfl rfl (l' := #[.val (.int p1), .val (.int p2), .val (.int p3), .val (.int p4), .val (.int p5), .val (.int (0 : Int32)), .val (.int v3), .val (.int v5), .val (.ref b6), .val (.ref b11), .unset, .unset, .unset, .unset, .unset, .unset, .unset, .unset]) rfl ?_
      show Steps p.tables e below (T18.setTop (mkF m 74 #[.val (.int p1), .val (.int p2), .val (.int p3), .val (.int p4), .val (.int p5), .val (.int (0 : Int32)), .val (.int v3), .val (.int v5), .val (.ref b6), .val (.ref b11), .unset, .unset, .unset, .unset, .unset, .unset, .unset, .unset] [])) _
      refine XS.iloadN X18.here hx rfl (hb hby at_74) rfl ?_
      show Steps p.tables e below (T18.setTop (mkF m 75 #[.val (.int p1), .val (.int p2), .val (.int p3), .val (.int p4), .val (.int p5), .val (.int (0 : Int32)), .val (.int v3), .val (.int v5), .val (.ref b6), .val (.ref b11), .unset, .unset, .unset, .unset, .unset, .unset, .unset, .unset] [(.int p3)])) _
      refine st19 _ ?_
      show Steps p.tables e below (T19.setTop (mkF m 78 #[.val (.int p1), .val (.int p2), .val (.int p3), .val (.int p4), .val (.int p5), .val (.int (0 : Int32)), .val (.int v3), .val (.int v5), .val (.ref b6), .val (.ref b11), .unset, .unset, .unset, .unset, .unset, .unset, .unset, .unset] [(.ref r19)])) _
      refine XS.astore X19.here hx rfl (hb hby at_78) rfl rfl (l' := #[.val (.int p1), .val (.int p2), .val (.int p3), .val (.int p4), .val (.int p5), .val (.int (0 : Int32)), .val (.int v3), .val (.int v5), .val (.ref b6), .val (.ref b11), .val (.ref r19), .unset, .unset, .unset, .unset, .unset, .unset, .unset]) rfl ?_
      show Steps p.tables e below (T19.setTop (mkF m 80 #[.val (.int p1), .val (.int p2), .val (.int p3), .val (.int p4), .val (.int p5), .val (.int (0 : Int32)), .val (.int v3), .val (.int v5), .val (.ref b6), .val (.ref b11), .val (.ref r19), .unset, .unset, .unset, .unset, .unset, .unset, .unset] [])) _
      refine XS.iloadN X19.here hx rfl (hb hby at_80) rfl ?_
      show Steps p.tables e below (T19.setTop (mkF m 81 #[.val (.int p1), .val (.int p2), .val (.int p3), .val (.int p4), .val (.int p5), .val (.int (0 : Int32)), .val (.int v3), .val (.int v5), .val (.ref b6), .val (.ref b11), .val (.ref r19), .unset, .unset, .unset, .unset, .unset, .unset, .unset] [(.int p4)])) _
      refine st20 _ ?_
      show Steps p.tables e below (T20.setTop (mkF m 84 #[.val (.int p1), .val (.int p2), .val (.int p3), .val (.int p4), .val (.int p5), .val (.int (0 : Int32)), .val (.int v3), .val (.int v5), .val (.ref b6), .val (.ref b11), .val (.ref r19), .unset, .unset, .unset, .unset, .unset, .unset, .unset] [(.ref r20)])) _
      refine XS.astore X20.here hx rfl (hb hby at_84) rfl rfl (l' := #[.val (.int p1), .val (.int p2), .val (.int p3), .val (.int p4), .val (.int p5), .val (.int (0 : Int32)), .val (.int v3), .val (.int v5), .val (.ref b6), .val (.ref b11), .val (.ref r19), .val (.ref r20), .unset, .unset, .unset, .unset, .unset, .unset]) rfl ?_
      show Steps p.tables e below (T20.setTop (mkF m 86 #[.val (.int p1), .val (.int p2), .val (.int p3), .val (.int p4), .val (.int p5), .val (.int (0 : Int32)), .val (.int v3), .val (.int v5), .val (.ref b6), .val (.ref b11), .val (.ref r19), .val (.ref r20), .unset, .unset, .unset, .unset, .unset, .unset] [])) _
      refine st21 _ ?_
      show Steps p.tables e below (T21.setTop (mkF m 89 #[.val (.int p1), .val (.int p2), .val (.int p3), .val (.int p4), .val (.int p5), .val (.int (0 : Int32)), .val (.int v3), .val (.int v5), .val (.ref b6), .val (.ref b11), .val (.ref r19), .val (.ref r20), .unset, .unset, .unset, .unset, .unset, .unset] [(.ref b21)])) _
      refine XS.dup X21.here hx rfl (hb hby at_89) rfl rfl ?_
      show Steps p.tables e below (T21.setTop (mkF m 90 #[.val (.int p1), .val (.int p2), .val (.int p3), .val (.int p4), .val (.int p5), .val (.int (0 : Int32)), .val (.int v3), .val (.int v5), .val (.ref b6), .val (.ref b11), .val (.ref r19), .val (.ref r20), .unset, .unset, .unset, .unset, .unset, .unset] [(.ref b21), (.ref b21)])) _
      refine XS.iload X21.here hx rfl (hb hby at_90) rfl ?_
      show Steps p.tables e below (T21.setTop (mkF m 92 #[.val (.int p1), .val (.int p2), .val (.int p3), .val (.int p4), .val (.int p5), .val (.int (0 : Int32)), .val (.int v3), .val (.int v5), .val (.ref b6), .val (.ref b11), .val (.ref r19), .val (.ref r20), .unset, .unset, .unset, .unset, .unset, .unset] [(.int (0 : Int32)), (.ref b21), (.ref b21)])) _
      refine XS.ifYes X21.here hx rfl (pc0 := 92) (pc' := 100) rfl (hb hby at_92) rfl ((if0 _ _).trans (teq hc26_92).1) (by decide) (by decide) ?_
      show Steps p.tables e below (T21.setTop (mkF m 100 #[.val (.int p1), .val (.int p2), .val (.int p3), .val (.int p4), .val (.int p5), .val (.int (0 : Int32)), .val (.int v3), .val (.int v5), .val (.ref b6), .val (.ref b11), .val (.ref r19), .val (.ref r20), .unset, .unset, .unset, .unset, .unset, .unset] [(.ref b21), (.ref b21)])) _
      refine XS.aconstNull X21.here hx rfl (hb hby at_100) ?_
      show Steps p.tables e below (T21.setTop (mkF m 101 #[.val (.int p1), .val (.int p2), .val (.int p3), .val (.int p4), .val (.int p5), .val (.int (0 : Int32)), .val (.int v3), .val (.int v5), .val (.ref b6), .val (.ref b11), .val (.ref r19), .val (.ref r20), .unset, .unset, .unset, .unset, .unset, .unset] [.null, (.ref b21), (.ref b21)])) _
      refine XS.aload X21.here hx rfl (hb hby at_101) rfl rfl ?_
      show Steps p.tables e below (T21.setTop (mkF m 103 #[.val (.int p1), .val (.int p2), .val (.int p3), .val (.int p4), .val (.int p5), .val (.int (0 : Int32)), .val (.int v3), .val (.int v5), .val (.ref b6), .val (.ref b11), .val (.ref r19), .val (.ref r20), .unset, .unset, .unset, .unset, .unset, .unset] [(.ref b6), .null, (.ref b21), (.ref b21)])) _
      refine st27.trans ?_
      exact ktx
    obtain ⟨T29, h29, X29, e29, E29, A29, D29, -, st29⟩ := newO X27 hx hZ hown (hw _ (List.mem_of_getElem? (i := 34) rfl)) (hw _ (List.mem_of_getElem? (i := 35) rfl)) (hw _ (List.mem_of_getElem? (i := 36) rfl)) rfl (g := (mkF m 108 #[.val (.int p1), .val (.int p2), .val (.int p3), .val (.int p4), .val (.int p5), .val (.int (0 : Int32)), .val (.int v3), .val (.int v5), .val (.ref b6), .val (.ref b11), .val (.ref r19), .val (.ref r20), .val (.ref b21), .unset, .unset, .unset, .unset, .unset] [])) rfl (hb hby at_108) (by decide) (by decide)
    obtain ⟨b29, g29⟩ : ∃ z, z = T27.heap.size := ⟨_, rfl⟩
    rw [← g29] at A29 D29 st29
    have f31 := ((f23.ext E21).keep Kq27 (ninS ne22 nin0))
    have ne30 : b6 ≠ b29 := Nat.ne_of_lt (Nat.lt_of_lt_of_le f31.lt (Nat.le_of_eq g29.symm))
    have f33 := ((f25.ext E21).keep Kq27 (ninS ne24 nin0))
    have ne32 : b11 ≠ b29 := Nat.ne_of_lt (Nat.lt_of_lt_of_le f33.lt (Nat.le_of_eq g29.symm))
    have ne34 : b21 ≠ b29 := Nat.ne_of_lt (Nat.lt_of_lt_of_le Eq27.lt (Nat.le_of_eq g29.symm))
    have g_b29 : n0 ≤ b29 := Nat.le_trans Z27 (Nat.le_of_eq g29.symm)
    have Z29 : n0 ≤ h29.size := Nat.le_trans Z27 E29.1
    have O29 := O27.ext E29
    have F29_jwt : Fld Z h29 b29 "io/subjectwire/auth/Credentials" "jwt" "Ljava/lang/String;" .null := D29 (Or.inr (hw _ (List.mem_of_getElem? (i := 42) rfl))) (ty := (.object "java/lang/String")) (by decide)
    have F29_seed : Fld Z h29 b29 "io/subjectwire/auth/Credentials" "seed" "[C" .null := D29 (Or.inr (hw _ (List.mem_of_getElem? (i := 44) rfl))) (ty := (.array .char)) (by decide)
    have hc35_114 : (0 : Int32) = (0 : Int32) := (by decide)
    obtain ⟨_, _, ⟨T36, L36, k36, n36⟩, -, X36, ⟨Lc36, hQ36, l36, y36, z36⟩, st36⟩ := X29.specialBack hx (y := (⟨"io/subjectwire/auth/Credentials", "<init>", "(Ljava/lang/String;[C)V"⟩ : MethodName)) rfl hown (mvT hZ (hw _ (List.mem_of_getElem? (i := 37) rfl))) (mvT hZ (hw _ (List.mem_of_getElem? (i := 38) rfl))) (mvT hZ (hw _ (List.mem_of_getElem? (i := 39) rfl))) (by decide) (backOf (W := 1) (rm8n l Z a0 hw [] b29 b11  h29 n0 Z29 A29 g_b29 F29_jwt F29_seed) hZ (hw _ (List.mem_of_getElem? (i := 39) rfl)) (hw _ (List.mem_of_getElem? (i := 36) rfl)) (by decide) (by decide)) (g := (mkF m 125 #[.val (.int p1), .val (.int p2), .val (.int p3), .val (.int p4), .val (.int p5), .val (.int (0 : Int32)), .val (.int v3), .val (.int v5), .val (.ref b6), .val (.ref b11), .val (.ref r19), .val (.ref r20), .val (.ref b21), .unset, .unset, .unset, .unset, .unset] [(.ref b11), .null, (.ref b29), (.ref b29)])) rfl (by rw [hml]; rfl) (Steps.refl _) (a := b29) (argsL := [.null, (.ref b11)]) (rest := [(.ref b29)]) (lenOf own_pd3 rfl) rfl (by show 2 * 0 + _ ≤ _; exact Nat.le_of_eq rfl) (hb hby at_125) (fun _ _ => ⟨rfl, e29, (by decide : 10 + 0 ≤ _), (by decide : 24 + 0 ≤ _)⟩)
    dsimp only [Pt.U, Pt.locs, Pt.cells, Pt.slots] at X36 l36 y36 z36 st36 hQ36
    subst l36 y36 z36
    obtain ⟨rfl, Nq36, Kq36, Eq36, Fq36_jwt, Fq36_seed⟩ := hQ36
    have N36 := Fr.app N27 Nq36
    have Z36 : n0 ≤ T36.heap.size := Nat.le_trans Z29 Kq36.1
    have O36 := O29.keep Kq36 (allS g_b29 all0)
    obtain ⟨T37, h37, X37, e37, E37, A37, D37, -, st37⟩ := newO X36 hx hZ hown (hw _ (List.mem_of_getElem? (i := 34) rfl)) (hw _ (List.mem_of_getElem? (i := 35) rfl)) (hw _ (List.mem_of_getElem? (i := 36) rfl)) rfl (g := (mkF m 130 #[.val (.int p1), .val (.int p2), .val (.int p3), .val (.int p4), .val (.int p5), .val (.int (0 : Int32)), .val (.int v3), .val (.int v5), .val (.ref b6), .val (.ref b11), .val (.ref r19), .val (.ref r20), .val (.ref b21), .val (.ref b29), .unset, .unset, .unset, .unset] [])) rfl (hb hby at_130) (by decide) (by decide)
    obtain ⟨b37, g37⟩ : ∃ z, z = T36.heap.size := ⟨_, rfl⟩
    rw [← g37] at A37 D37 st37
    have f39 := ((f31.ext E29).keep Kq36 (ninS ne30 nin0))
    have ne38 : b6 ≠ b37 := Nat.ne_of_lt (Nat.lt_of_lt_of_le f39.lt (Nat.le_of_eq g37.symm))
    have f41 := ((f33.ext E29).keep Kq36 (ninS ne32 nin0))
    have ne40 : b11 ≠ b37 := Nat.ne_of_lt (Nat.lt_of_lt_of_le f41.lt (Nat.le_of_eq g37.symm))
    have f43 := ((Eq27.ext E29).keep Kq36)
    have ne42 : b21 ≠ b37 := Nat.ne_of_lt (Nat.lt_of_lt_of_le f43.lt (Nat.le_of_eq g37.symm))
    have ne44 : b29 ≠ b37 := Nat.ne_of_lt (Nat.lt_of_lt_of_le Eq36.lt (Nat.le_of_eq g37.symm))
    have g_b37 : n0 ≤ b37 := Nat.le_trans Z36 (Nat.le_of_eq g37.symm)
    have Z37 : n0 ≤ h37.size := Nat.le_trans Z36 E37.1
    have O37 := O36.ext E37
    have F37_jwt : Fld Z h37 b37 "io/subjectwire/auth/Credentials" "jwt" "Ljava/lang/String;" .null := D37 (Or.inr (hw _ (List.mem_of_getElem? (i := 42) rfl))) (ty := (.object "java/lang/String")) (by decide)
    have F37_seed : Fld Z h37 b37 "io/subjectwire/auth/Credentials" "seed" "[C" .null := D37 (Or.inr (hw _ (List.mem_of_getElem? (i := 44) rfl))) (ty := (.array .char)) (by decide)
    have hc45_136 : (0 : Int32) = (0 : Int32) := (by decide)
    have go46 : own_go p e below (s₁.setTop (entryFrame m #[(.int p1), (.int p2), (.int p3), (.int p4), (.int p5)] maxLocals)) (T37.setTop (mkF m 147 #[.val (.int p1), .val (.int p2), .val (.int p3), .val (.int p4), .val (.int p5), .val (.int (0 : Int32)), .val (.int v3), .val (.int v5), .val (.ref b6), .val (.ref b11), .val (.ref r19), .val (.ref r20), .val (.ref b21), .val (.ref b29), .unset, .unset, .unset, .unset] [(.ref b6), (.ref r19), (.ref b37), (.ref b37)])) := by
      intro ttx ktx
      refine go28 ttx ?_
      show Steps p.tables e below (T27.setTop (mkF m 106 #[.val (.int p1), .val (.int p2), .val (.int p3), .val (.int p4), .val (.int p5), .val (.int (0 : Int32)), .val (.int v3), .val (.int v5), .val (.ref b6), .val (.ref b11), .val (.ref r19), .val (.ref r20), .unset, .unset, .unset, .unset, .unset, .unset] [(.ref b21)])) _
      refine XS.astore X27.here hx rfl (hb hby at_106) rfl rfl (l' := #[.val (.int p1), .val (.int p2), .val (.int p3), .val (.int p4), .val (.int p5), .val (.int (0 : Int32)), .val (.int v3), .val (.int v5), .val (.ref b6), .val (.ref b11), .val (.ref r19), .val (.ref r20), .val (.ref b21), .unset, .unset, .unset, .unset, .unset]) rfl ?_
      show Steps p.tables e below (T27.setTop (mkF m 108 #[.val (.int p1), .val (.int p2), .val (.int p3), .val (.int p4), .val (.int p5), .val (.int (0 : Int32)), .val (.int v3), .val (.int v5), .val (.ref b6), .val (.ref b11), .val (.ref r19), .val (.ref r20), .val (.ref b21), .unset, .unset, .unset, .unset, .unset] [])) _
      refine st29 _ ?_
      show Steps p.tables e below (T29.setTop (mkF m 111 #[.val (.int p1), .val (.int p2), .val (.int p3), .val (.int p4), .val (.int p5), .val (.int (0 : Int32)), .val (.int v3), .val (.int v5), .val (.ref b6), .val (.ref b11), .val (.ref r19), .val (.ref r20), .val (.ref b21), .unset, .unset, .unset, .unset, .unset] [(.ref b29)])) _
      refine XS.dup X29.here hx rfl (hb hby at_111) rfl rfl ?_
      show Steps p.tables e below (T29.setTop (mkF m 112 #[.val (.int p1), .val (.int p2), .val (.int p3), .val (.int p4), .val (.int p5), .val (.int (0 : Int32)), .val (.int v3), .val (.int v5), .val (.ref b6), .val (.ref b11), .val (.ref r19), .val (.ref r20), .val (.ref b21), .unset, .unset, .unset, .unset, .unset] [(.ref b29), (.ref b29)])) _
      refine XS.iload X29.here hx rfl (hb hby at_112) rfl ?_
      show Steps p.tables e below (T29.setTop (mkF m 114 #[.val (.int p1), .val (.int p2), .val (.int p3), .val (.int p4), .val (.int p5), .val (.int (0 : Int32)), .val (.int v3), .val (.int v5), .val (.ref b6), .val (.ref b11), .val (.ref r19), .val (.ref r20), .val (.ref b21), .unset, .unset, .unset, .unset, .unset] [(.int (0 : Int32)), (.ref b29), (.ref b29)])) _
      refine XS.ifYes X29.here hx rfl (pc0 := 114) (pc' := 122) rfl (hb hby at_114) rfl ((if0 _ _).trans (teq hc35_114).1) (by decide) (by decide) ?_
      show Steps p.tables e below (T29.setTop (mkF m 122 #[.val (.int p1), .val (.int p2), .val (.int p3), .val (.int p4), .val (.int p5), .val (.int (0 : Int32)), .val (.int v3), .val (.int v5), .val (.ref b6), .val (.ref b11), .val (.ref r19), .val (.ref r20), .val (.ref b21), .unset, .unset, .unset, .unset, .unset] [(.ref b29), (.ref b29)])) _
      refine XS.aconstNull X29.here hx rfl (hb hby at_122) ?_
      show Steps p.tables e below (T29.setTop (mkF m 123 #[.val (.int p1), .val (.int p2), .val (.int p3), .val (.int p4), .val (.int p5), .val (.int (0 : Int32)), .val (.int v3), .val (.int v5), .val (.ref b6), .val (.ref b11), .val (.ref r19), .val (.ref r20), .val (.ref b21), .unset, .unset, .unset, .unset, .unset] [.null, (.ref b29), (.ref b29)])) _
      refine XS.aload X29.here hx rfl (hb hby at_123) rfl rfl ?_
      show Steps p.tables e below (T29.setTop (mkF m 125 #[.val (.int p1), .val (.int p2), .val (.int p3), .val (.int p4), .val (.int p5), .val (.int (0 : Int32)), .val (.int v3), .val (.int v5), .val (.ref b6), .val (.ref b11), .val (.ref r19), .val (.ref r20), .val (.ref b21), .unset, .unset, .unset, .unset, .unset] [(.ref b11), .null, (.ref b29), (.ref b29)])) _
      refine st36.trans ?_
      show Steps p.tables e below (T36.setTop (mkF m 128 #[.val (.int p1), .val (.int p2), .val (.int p3), .val (.int p4), .val (.int p5), .val (.int (0 : Int32)), .val (.int v3), .val (.int v5), .val (.ref b6), .val (.ref b11), .val (.ref r19), .val (.ref r20), .val (.ref b21), .unset, .unset, .unset, .unset, .unset] [(.ref b29)])) _
      refine XS.astore X36.here hx rfl (hb hby at_128) rfl rfl (l' := #[.val (.int p1), .val (.int p2), .val (.int p3), .val (.int p4), .val (.int p5), .val (.int (0 : Int32)), .val (.int v3), .val (.int v5), .val (.ref b6), .val (.ref b11), .val (.ref r19), .val (.ref r20), .val (.ref b21), .val (.ref b29), .unset, .unset, .unset, .unset]) rfl ?_
      show Steps p.tables e below (T36.setTop (mkF m 130 #[.val (.int p1), .val (.int p2), .val (.int p3), .val (.int p4), .val (.int p5), .val (.int (0 : Int32)), .val (.int v3), .val (.int v5), .val (.ref b6), .val (.ref b11), .val (.ref r19), .val (.ref r20), .val (.ref b21), .val (.ref b29), .unset, .unset, .unset, .unset] [])) _
      refine st37 _ ?_
      show Steps p.tables e below (T37.setTop (mkF m 133 #[.val (.int p1), .val (.int p2), .val (.int p3), .val (.int p4), .val (.int p5), .val (.int (0 : Int32)), .val (.int v3), .val (.int v5), .val (.ref b6), .val (.ref b11), .val (.ref r19), .val (.ref r20), .val (.ref b21), .val (.ref b29), .unset, .unset, .unset, .unset] [(.ref b37)])) _
      refine XS.dup X37.here hx rfl (hb hby at_133) rfl rfl ?_
      show Steps p.tables e below (T37.setTop (mkF m 134 #[.val (.int p1), .val (.int p2), .val (.int p3), .val (.int p4), .val (.int p5), .val (.int (0 : Int32)), .val (.int v3), .val (.int v5), .val (.ref b6), .val (.ref b11), .val (.ref r19), .val (.ref r20), .val (.ref b21), .val (.ref b29), .unset, .unset, .unset, .unset] [(.ref b37), (.ref b37)])) _
      refine XS.iload X37.here hx rfl (hb hby at_134) rfl ?_
      show Steps p.tables e below (T37.setTop (mkF m 136 #[.val (.int p1), .val (.int p2), .val (.int p3), .val (.int p4), .val (.int p5), .val (.int (0 : Int32)), .val (.int v3), .val (.int v5), .val (.ref b6), .val (.ref b11), .val (.ref r19), .val (.ref r20), .val (.ref b21), .val (.ref b29), .unset, .unset, .unset, .unset] [(.int (0 : Int32)), (.ref b37), (.ref b37)])) _
      refine XS.ifYes X37.here hx rfl (pc0 := 136) (pc' := 143) rfl (hb hby at_136) rfl ((if0 _ _).trans (teq hc45_136).1) (by decide) (by decide) ?_
      show Steps p.tables e below (T37.setTop (mkF m 143 #[.val (.int p1), .val (.int p2), .val (.int p3), .val (.int p4), .val (.int p5), .val (.int (0 : Int32)), .val (.int v3), .val (.int v5), .val (.ref b6), .val (.ref b11), .val (.ref r19), .val (.ref r20), .val (.ref b21), .val (.ref b29), .unset, .unset, .unset, .unset] [(.ref b37), (.ref b37)])) _
      refine XS.aload X37.here hx rfl (hb hby at_143) rfl rfl ?_
      show Steps p.tables e below (T37.setTop (mkF m 145 #[.val (.int p1), .val (.int p2), .val (.int p3), .val (.int p4), .val (.int p5), .val (.int (0 : Int32)), .val (.int v3), .val (.int v5), .val (.ref b6), .val (.ref b11), .val (.ref r19), .val (.ref r20), .val (.ref b21), .val (.ref b29), .unset, .unset, .unset, .unset] [(.ref r19), (.ref b37), (.ref b37)])) _
      refine XS.aload X37.here hx rfl (hb hby at_145) rfl rfl ?_
      exact ktx
    obtain ⟨_, _, ⟨T47, L47, k47, n47⟩, -, X47, ⟨Lc47, hQ47, l47, y47, z47⟩, st47⟩ := X37.specialBack hx (y := (⟨"io/subjectwire/auth/Credentials", "<init>", "(Ljava/lang/String;[C)V"⟩ : MethodName)) rfl hown (mvT hZ (hw _ (List.mem_of_getElem? (i := 37) rfl))) (mvT hZ (hw _ (List.mem_of_getElem? (i := 38) rfl))) (mvT hZ (hw _ (List.mem_of_getElem? (i := 39) rfl))) (by decide) (backOf (W := 1) (rm8r l Z a0 hw [] b37 r19 b6  h37 n0 Z37 A37 g_b37 F37_jwt F37_seed) hZ (hw _ (List.mem_of_getElem? (i := 39) rfl)) (hw _ (List.mem_of_getElem? (i := 36) rfl)) (by decide) (by decide)) (g := (mkF m 147 #[.val (.int p1), .val (.int p2), .val (.int p3), .val (.int p4), .val (.int p5), .val (.int (0 : Int32)), .val (.int v3), .val (.int v5), .val (.ref b6), .val (.ref b11), .val (.ref r19), .val (.ref r20), .val (.ref b21), .val (.ref b29), .unset, .unset, .unset, .unset] [(.ref b6), (.ref r19), (.ref b37), (.ref b37)])) rfl (by rw [hml]; rfl) (Steps.refl _) (a := b37) (argsL := [(.ref r19), (.ref b6)]) (rest := [(.ref b37)]) (lenOf own_pd3 rfl) rfl (by show 2 * 0 + _ ≤ _; exact Nat.le_of_eq rfl) (hb hby at_147) (fun _ _ => ⟨rfl, e37, (by decide : 11 + 0 ≤ _), (by decide : 26 + 0 ≤ _)⟩)
    dsimp only [Pt.U, Pt.locs, Pt.cells, Pt.slots] at X47 l47 y47 z47 st47 hQ47
    subst l47 y47 z47
    obtain ⟨rfl, Nq47, Kq47, Eq47, Fq47_jwt, Fq47_seed⟩ := hQ47
    have N47 := Fr.app N36 Nq47
    have Z47 : n0 ≤ T47.heap.size := Nat.le_trans Z37 Kq47.1
    have O47 := O37.keep Kq47 (allS g_b37 all0)
    have f49 := ((((Fq27_jwt.ext E29).keep Kq36 (ninS ne34 nin0)).ext E37).keep Kq47 (ninS ne42 nin0))
    have f50 := ((f43.ext E37).keep Kq47)
    obtain ⟨cq48, kq48, q48a, q48b, q48c⟩ := isOf hZ rfl f50
    have eB48 : T47.heap = T47.heap := rfl
    obtain ⟨_, _, ⟨T48, L48, k48, n48⟩, -, X48, hS48, hg48, ⟨Lc48, hQ48, l48, y48, z48⟩, st48⟩ := X47.virtualBackS hx (y := (⟨"io/subjectwire/auth/Credentials", "toString", "()Ljava/lang/String;"⟩ : MethodName)) (z := (⟨"io/subjectwire/auth/Credentials", "toString", "()Ljava/lang/String;"⟩ : MethodName)) hown (mvT hZ (hw _ (List.mem_of_getElem? (i := 45) rfl))) (mvT hZ (hw _ (List.mem_of_getElem? (i := 46) rfl))) (notFace_of_selects (args := #[]) (mvT hZ (hw _ (List.mem_of_getElem? (i := 48) rfl)))) (mvT hZ (hw _ (List.mem_of_getElem? (i := 48) rfl))) (mvT hZ (hw _ (List.mem_of_getElem? (i := 47) rfl))) (by decide) (own_backS (W := 0) (J := fun vm => IB Z vm []) (rm9f86 l Z a0 hw [] b21 [] T47.heap n0 Z47 f49 O47 (by decide) HC86 HCW) hZ (hw _ (List.mem_of_getElem? (i := 49) rfl)) (hw _ (List.mem_of_getElem? (i := 36) rfl)) (by decide) (by decide) (own_ib hJ)) q48a q48c (g := (mkF m 154 #[.val (.int p1), .val (.int p2), .val (.int p3), .val (.int p4), .val (.int p5), .val (.int (0 : Int32)), .val (.int v3), .val (.int v5), .val (.ref b6), .val (.ref b11), .val (.ref r19), .val (.ref r20), .val (.ref b21), .val (.ref b29), .val (.ref b37), .unset, .unset, .unset] [(.ref b21)])) rfl (by rw [hml]; rfl) (Steps.refl _) (argsL := []) (rest := []) (lenOf own_pd4 rfl) rfl (by show 2 * 0 + _ ≤ _; exact Nat.le_of_eq rfl) (hb hby at_154) (fun _ _ => ⟨rfl, rfl, (by decide : 11 + 2 ≤ _), (by decide : 26 + 92 ≤ _)⟩)
    dsimp only [Pt.U, Pt.locs, Pt.cells, Pt.slots] at X48 l48 y48 z48 st48 hQ48 hS48 hg48
    subst l48 y48 z48
    obtain ⟨r48, b48, kb48, vs48, rfl, Nq48, Eq48, Aq48, Cq48, Vq48, Rq48, Iq48, Lq48⟩ := hQ48
    have N48 := Fr.app N47 Nq48
    have hF48 : s.Since T48.vm T48.heap.size := hS48
    replace X48 : Stand p l e room_1 (s.setVm T48.vm) m #[(.int p1), (.int p2), (.int p3), (.int p4), (.int p5)] below meth c T48 _ _ _ := X48
    have hZ : Z.Warmed39 (s.setVm T48.vm).vm := State.Warmed39.trans (t := s) hZs hF48.1
    have hown : (s.setVm T48.vm).vm.findClass "io/subjectwire/auth/CredentialsToStringPinLaw" = some m.cls := by rw [show (s.setVm T48.vm).vm = T48.vm from rfl, hF48.1.alike.findClass]; exact howns
    have Z48 : n0 ≤ T48.heap.size := Nat.le_trans Z47 Eq48.1
    have O48 := O47.ext Eq48
    have f52 := (((Fq36_jwt.ext E37).keep Kq47 (ninS ne44 nin0)).ext Eq48)
    have f53 := (((Eq36.ext E37).keep Kq47).ext Eq48)
    obtain ⟨cq51, kq51, q51a, q51b, q51c⟩ := isOf hZ rfl f53
    obtain ⟨_, _, ⟨T51, L51, k51, n51⟩, -, X51, ⟨Lc51, hQ51, l51, y51, z51⟩, st51⟩ := X48.virtualBack hx (y := (⟨"io/subjectwire/auth/Credentials", "toString", "()Ljava/lang/String;"⟩ : MethodName)) (z := (⟨"io/subjectwire/auth/Credentials", "toString", "()Ljava/lang/String;"⟩ : MethodName)) hown (mvT hZ (hw _ (List.mem_of_getElem? (i := 45) rfl))) (mvT hZ (hw _ (List.mem_of_getElem? (i := 46) rfl))) (notFace_of_selects (args := #[]) (mvT hZ (hw _ (List.mem_of_getElem? (i := 48) rfl)))) (mvT hZ (hw _ (List.mem_of_getElem? (i := 48) rfl))) (mvT hZ (hw _ (List.mem_of_getElem? (i := 47) rfl))) (by decide) (own_backL (W := 0) (J := fun vm => Lit (Z.setVm vm) "io/subjectwire/auth/Credentials" 86 r48) (rm9a86 l Z a0 hw [] b29  r48 T48.heap n0 Z48 f52) hZ (hw _ (List.mem_of_getElem? (i := 49) rfl)) (hw _ (List.mem_of_getElem? (i := 36) rfl)) (by decide) (by decide) (own_lit Lq48)) q51a q51c (g := (mkF m 161 #[.val (.int p1), .val (.int p2), .val (.int p3), .val (.int p4), .val (.int p5), .val (.int (0 : Int32)), .val (.int v3), .val (.int v5), .val (.ref b6), .val (.ref b11), .val (.ref r19), .val (.ref r20), .val (.ref b21), .val (.ref b29), .val (.ref b37), .val (.ref r48), .unset, .unset] [(.ref b29)])) rfl (by rw [hml]; rfl) (Steps.refl _) (argsL := []) (rest := []) (lenOf own_pd4 rfl) rfl (by show 2 * 0 + _ ≤ _; exact Nat.le_of_eq rfl) (hb hby at_161) (fun _ _ => ⟨rfl, rfl, (by decide : 13 + 0 ≤ _), (by decide : 118 + 0 ≤ _)⟩)
    dsimp only [Pt.U, Pt.locs, Pt.cells, Pt.slots] at X51 l51 y51 z51 st51 hQ51
    subst l51 y51 z51
    obtain ⟨rfl, Nq51, e51⟩ := hQ51
    have N51 := Fr.app N48 Nq51
    have f55 := (Fq47_jwt.ext Eq48)
    have f56 := (Eq47.ext Eq48)
    obtain ⟨cq54, kq54, q54a, q54b, q54c⟩ := isOf hZ e51 f56
    have eB54 : T51.heap = T48.heap := e51
    obtain ⟨_, _, ⟨T54, L54, k54, n54⟩, -, X54, hS54, hg54, ⟨Lc54, hQ54, l54, y54, z54⟩, st54⟩ := X51.virtualBackS hx (y := (⟨"io/subjectwire/auth/Credentials", "toString", "()Ljava/lang/String;"⟩ : MethodName)) (z := (⟨"io/subjectwire/auth/Credentials", "toString", "()Ljava/lang/String;"⟩ : MethodName)) hown (mvT hZ (hw _ (List.mem_of_getElem? (i := 45) rfl))) (mvT hZ (hw _ (List.mem_of_getElem? (i := 46) rfl))) (notFace_of_selects (args := #[]) (mvT hZ (hw _ (List.mem_of_getElem? (i := 48) rfl)))) (mvT hZ (hw _ (List.mem_of_getElem? (i := 48) rfl))) (mvT hZ (hw _ (List.mem_of_getElem? (i := 47) rfl))) (by decide) (own_backS (W := 0) (J := fun vm => IB Z vm ("Credentials[nkey seed]" :: [])) (rm9f88 l Z a0 hw [] b37 r19 ("Credentials[nkey seed]" :: []) T48.heap n0 Z48 f55 O48 (by decide) HC88 HCW) hZ (hw _ (List.mem_of_getElem? (i := 49) rfl)) (hw _ (List.mem_of_getElem? (i := 36) rfl)) (by decide) (by decide) (own_ib Iq48)) q54a q54c (g := (mkF m 168 #[.val (.int p1), .val (.int p2), .val (.int p3), .val (.int p4), .val (.int p5), .val (.int (0 : Int32)), .val (.int v3), .val (.int v5), .val (.ref b6), .val (.ref b11), .val (.ref r19), .val (.ref r20), .val (.ref b21), .val (.ref b29), .val (.ref b37), .val (.ref r48), .val (.ref r48), .unset] [(.ref b37)])) rfl (by rw [hml]; rfl) (Steps.refl _) (argsL := []) (rest := []) (lenOf own_pd4 rfl) rfl (by show 2 * 0 + _ ≤ _; exact Nat.le_of_eq rfl) (hb hby at_168) (fun _ _ => ⟨rfl, e51, (by decide : 13 + 2 ≤ _), (by decide : 118 + 132 ≤ _)⟩)
    dsimp only [Pt.U, Pt.locs, Pt.cells, Pt.slots] at X54 l54 y54 z54 st54 hQ54 hS54 hg54
    subst l54 y54 z54
    obtain ⟨r54, b54, kb54, vs54, rfl, Nq54, Eq54, Aq54, Cq54, Vq54, Rq54, Iq54, Lq54⟩ := hQ54
    have N54 := Fr.app N51 Nq54
    have hF54 : s.Since T54.vm T54.heap.size := foldS (T := T51) hF48 (by rw [eB54]; exact Nat.le_refl _) hS54 hg54
    replace X54 : Stand p l e room_1 (s.setVm T54.vm) m #[(.int p1), (.int p2), (.int p3), (.int p4), (.int p5)] below meth c T54 _ _ _ := X54
    have hZ : Z.Warmed39 (s.setVm T54.vm).vm := State.Warmed39.trans (t := s) hZs hF54.1
    have hown : (s.setVm T54.vm).vm.findClass "io/subjectwire/auth/CredentialsToStringPinLaw" = some m.cls := by rw [show (s.setVm T54.vm).vm = T54.vm from rfl, hF54.1.alike.findClass]; exact howns
    have Z54 : n0 ≤ T54.heap.size := Nat.le_trans Z48 Eq54.1
    have O54 := O48.ext Eq54
    have go57 : own_go p e below (s₁.setTop (entryFrame m #[(.int p1), (.int p2), (.int p3), (.int p4), (.int p5)] maxLocals)) (T54.setTop (mkF m 183 #[.val (.int p1), .val (.int p2), .val (.int p3), .val (.int p4), .val (.int p5), .val (.int (0 : Int32)), .val (.int v3), .val (.int v5), .val (.ref b6), .val (.ref b11), .val (.ref r19), .val (.ref r20), .val (.ref b21), .val (.ref b29), .val (.ref b37), .val (.ref r48), .val (.ref r48), .val (.ref r54)] [])) := by
      intro ttx ktx
      refine go46 ttx ?_
      show Steps p.tables e below (T37.setTop (mkF m 147 #[.val (.int p1), .val (.int p2), .val (.int p3), .val (.int p4), .val (.int p5), .val (.int (0 : Int32)), .val (.int v3), .val (.int v5), .val (.ref b6), .val (.ref b11), .val (.ref r19), .val (.ref r20), .val (.ref b21), .val (.ref b29), .unset, .unset, .unset, .unset] [(.ref b6), (.ref r19), (.ref b37), (.ref b37)])) _
      refine st47.trans ?_
      show Steps p.tables e below (T47.setTop (mkF m 150 #[.val (.int p1), .val (.int p2), .val (.int p3), .val (.int p4), .val (.int p5), .val (.int (0 : Int32)), .val (.int v3), .val (.int v5), .val (.ref b6), .val (.ref b11), .val (.ref r19), .val (.ref r20), .val (.ref b21), .val (.ref b29), .unset, .unset, .unset, .unset] [(.ref b37)])) _
      refine XS.astore X47.here hx rfl (hb hby at_150) rfl rfl (l' := #[.val (.int p1), .val (.int p2), .val (.int p3), .val (.int p4), .val (.int p5), .val (.int (0 : Int32)), .val (.int v3), .val (.int v5), .val (.ref b6), .val (.ref b11), .val (.ref r19), .val (.ref r20), .val (.ref b21), .val (.ref b29), .val (.ref b37), .unset, .unset, .unset]) rfl ?_
      show Steps p.tables e below (T47.setTop (mkF m 152 #[.val (.int p1), .val (.int p2), .val (.int p3), .val (.int p4), .val (.int p5), .val (.int (0 : Int32)), .val (.int v3), .val (.int v5), .val (.ref b6), .val (.ref b11), .val (.ref r19), .val (.ref r20), .val (.ref b21), .val (.ref b29), .val (.ref b37), .unset, .unset, .unset] [])) _
      refine XS.aload X47.here hx rfl (hb hby at_152) rfl rfl ?_
      show Steps p.tables e below (T47.setTop (mkF m 154 #[.val (.int p1), .val (.int p2), .val (.int p3), .val (.int p4), .val (.int p5), .val (.int (0 : Int32)), .val (.int v3), .val (.int v5), .val (.ref b6), .val (.ref b11), .val (.ref r19), .val (.ref r20), .val (.ref b21), .val (.ref b29), .val (.ref b37), .unset, .unset, .unset] [(.ref b21)])) _
      refine st48.trans ?_
      show Steps p.tables e below (T48.setTop (mkF m 157 #[.val (.int p1), .val (.int p2), .val (.int p3), .val (.int p4), .val (.int p5), .val (.int (0 : Int32)), .val (.int v3), .val (.int v5), .val (.ref b6), .val (.ref b11), .val (.ref r19), .val (.ref r20), .val (.ref b21), .val (.ref b29), .val (.ref b37), .unset, .unset, .unset] [(.ref r48)])) _
      refine XS.astore X48.here hx rfl (hb hby at_157) rfl rfl (l' := #[.val (.int p1), .val (.int p2), .val (.int p3), .val (.int p4), .val (.int p5), .val (.int (0 : Int32)), .val (.int v3), .val (.int v5), .val (.ref b6), .val (.ref b11), .val (.ref r19), .val (.ref r20), .val (.ref b21), .val (.ref b29), .val (.ref b37), .val (.ref r48), .unset, .unset]) rfl ?_
      show Steps p.tables e below (T48.setTop (mkF m 159 #[.val (.int p1), .val (.int p2), .val (.int p3), .val (.int p4), .val (.int p5), .val (.int (0 : Int32)), .val (.int v3), .val (.int v5), .val (.ref b6), .val (.ref b11), .val (.ref r19), .val (.ref r20), .val (.ref b21), .val (.ref b29), .val (.ref b37), .val (.ref r48), .unset, .unset] [])) _
      refine XS.aload X48.here hx rfl (hb hby at_159) rfl rfl ?_
      show Steps p.tables e below (T48.setTop (mkF m 161 #[.val (.int p1), .val (.int p2), .val (.int p3), .val (.int p4), .val (.int p5), .val (.int (0 : Int32)), .val (.int v3), .val (.int v5), .val (.ref b6), .val (.ref b11), .val (.ref r19), .val (.ref r20), .val (.ref b21), .val (.ref b29), .val (.ref b37), .val (.ref r48), .unset, .unset] [(.ref b29)])) _
      refine st51.trans ?_
      show Steps p.tables e below (T51.setTop (mkF m 164 #[.val (.int p1), .val (.int p2), .val (.int p3), .val (.int p4), .val (.int p5), .val (.int (0 : Int32)), .val (.int v3), .val (.int v5), .val (.ref b6), .val (.ref b11), .val (.ref r19), .val (.ref r20), .val (.ref b21), .val (.ref b29), .val (.ref b37), .val (.ref r48), .unset, .unset] [(.ref r48)])) _
      refine XS.astore X51.here hx rfl (hb hby at_164) rfl rfl (l' := #[.val (.int p1), .val (.int p2), .val (.int p3), .val (.int p4), .val (.int p5), .val (.int (0 : Int32)), .val (.int v3), .val (.int v5), .val (.ref b6), .val (.ref b11), .val (.ref r19), .val (.ref r20), .val (.ref b21), .val (.ref b29), .val (.ref b37), .val (.ref r48), .val (.ref r48), .unset]) rfl ?_
      show Steps p.tables e below (T51.setTop (mkF m 166 #[.val (.int p1), .val (.int p2), .val (.int p3), .val (.int p4), .val (.int p5), .val (.int (0 : Int32)), .val (.int v3), .val (.int v5), .val (.ref b6), .val (.ref b11), .val (.ref r19), .val (.ref r20), .val (.ref b21), .val (.ref b29), .val (.ref b37), .val (.ref r48), .val (.ref r48), .unset] [])) _
      refine XS.aload X51.here hx rfl (hb hby at_166) rfl rfl ?_
      show Steps p.tables e below (T51.setTop (mkF m 168 #[.val (.int p1), .val (.int p2), .val (.int p3), .val (.int p4), .val (.int p5), .val (.int (0 : Int32)), .val (.int v3), .val (.int v5), .val (.ref b6), .val (.ref b11), .val (.ref r19), .val (.ref r20), .val (.ref b21), .val (.ref b29), .val (.ref b37), .val (.ref r48), .val (.ref r48), .unset] [(.ref b37)])) _
      refine st54.trans ?_
      show Steps p.tables e below (T54.setTop (mkF m 171 #[.val (.int p1), .val (.int p2), .val (.int p3), .val (.int p4), .val (.int p5), .val (.int (0 : Int32)), .val (.int v3), .val (.int v5), .val (.ref b6), .val (.ref b11), .val (.ref r19), .val (.ref r20), .val (.ref b21), .val (.ref b29), .val (.ref b37), .val (.ref r48), .val (.ref r48), .unset] [(.ref r54)])) _
      refine XS.astore X54.here hx rfl (hb hby at_171) rfl rfl (l' := #[.val (.int p1), .val (.int p2), .val (.int p3), .val (.int p4), .val (.int p5), .val (.int (0 : Int32)), .val (.int v3), .val (.int v5), .val (.ref b6), .val (.ref b11), .val (.ref r19), .val (.ref r20), .val (.ref b21), .val (.ref b29), .val (.ref b37), .val (.ref r48), .val (.ref r48), .val (.ref r54)]) rfl ?_
      show Steps p.tables e below (T54.setTop (mkF m 173 #[.val (.int p1), .val (.int p2), .val (.int p3), .val (.int p4), .val (.int p5), .val (.int (0 : Int32)), .val (.int v3), .val (.int v5), .val (.ref b6), .val (.ref b11), .val (.ref r19), .val (.ref r20), .val (.ref b21), .val (.ref b29), .val (.ref b37), .val (.ref r48), .val (.ref r48), .val (.ref r54)] [])) _
      refine XS.aload X54.here hx rfl (hb hby at_173) rfl rfl ?_
      show Steps p.tables e below (T54.setTop (mkF m 175 #[.val (.int p1), .val (.int p2), .val (.int p3), .val (.int p4), .val (.int p5), .val (.int (0 : Int32)), .val (.int v3), .val (.int v5), .val (.ref b6), .val (.ref b11), .val (.ref r19), .val (.ref r20), .val (.ref b21), .val (.ref b29), .val (.ref b37), .val (.ref r48), .val (.ref r48), .val (.ref r54)] [(.ref r48)])) _
      refine XS.ifnullNo X54.here hx rfl (hb hby at_175) rfl ?_
      show Steps p.tables e below (T54.setTop (mkF m 178 #[.val (.int p1), .val (.int p2), .val (.int p3), .val (.int p4), .val (.int p5), .val (.int (0 : Int32)), .val (.int v3), .val (.int v5), .val (.ref b6), .val (.ref b11), .val (.ref r19), .val (.ref r20), .val (.ref b21), .val (.ref b29), .val (.ref b37), .val (.ref r48), .val (.ref r48), .val (.ref r54)] [])) _
      refine XS.aload X54.here hx rfl (hb hby at_178) rfl rfl ?_
      show Steps p.tables e below (T54.setTop (mkF m 180 #[.val (.int p1), .val (.int p2), .val (.int p3), .val (.int p4), .val (.int p5), .val (.int (0 : Int32)), .val (.int v3), .val (.int v5), .val (.ref b6), .val (.ref b11), .val (.ref r19), .val (.ref r20), .val (.ref b21), .val (.ref b29), .val (.ref b37), .val (.ref r48), .val (.ref r48), .val (.ref r54)] [(.ref r48)])) _
      refine XS.ifnullNo X54.here hx rfl (hb hby at_180) rfl ?_
      exact ktx
    have f59 := (Vq48.ext Eq54)
    have f60 := (Rq48.ext Eq54)
    have f61 := (Aq48.ext Eq54)
    obtain ⟨cq58, kq58, q58a, q58b, q58c⟩ := isOf hZ rfl f61
    obtain ⟨_, _, ⟨T58, L58, k58, n58⟩, -, X58, ⟨Lc58, hQ58, l58, y58, z58⟩, st58⟩ := X54.virtualBack hx (y := (⟨"java/lang/String", "isEmpty", "()Z"⟩ : MethodName)) (z := (⟨"java/lang/String", "isEmpty", "()Z"⟩ : MethodName)) hown (mvT hZ (hw _ (List.mem_of_getElem? (i := 54) rfl))) (mvT hZ (hw _ (List.mem_of_getElem? (i := 55) rfl))) (notFace_of_selects (args := #[]) (mvT hZ (hw _ (List.mem_of_getElem? (i := 57) rfl)))) (mvT hZ (hw _ (List.mem_of_getElem? (i := 57) rfl))) (mvT hZ (hw _ (List.mem_of_getElem? (i := 56) rfl))) (by decide) (backOf (W := 0) (rm10 l Z a0 hw [] r48 b48 kb48 (22 : Int32) _ T54.heap n0 Z54 f59 f60 (by decide)) hZ (hw _ (List.mem_of_getElem? (i := 58) rfl)) (hw _ (List.mem_of_getElem? (i := 7) rfl)) (by decide) (by decide)) q58a q58c (g := (mkF m 192 #[.val (.int p1), .val (.int p2), .val (.int p3), .val (.int p4), .val (.int p5), .val (.int (0 : Int32)), .val (.int v3), .val (.int v5), .val (.ref b6), .val (.ref b11), .val (.ref r19), .val (.ref r20), .val (.ref b21), .val (.ref b29), .val (.ref b37), .val (.ref r48), .val (.ref r48), .val (.ref r54)] [(.ref r48)])) rfl (by rw [hml]; rfl) (Steps.refl _) (argsL := []) (rest := []) (lenOf own_pd5 rfl) rfl (by show 2 * 0 + _ ≤ _; exact Nat.le_of_eq rfl) (hb hby at_192) (fun _ _ => ⟨rfl, rfl, (by decide : 15 + 0 ≤ _), (by decide : 250 + 0 ≤ _)⟩)
    dsimp only [Pt.U, Pt.locs, Pt.cells, Pt.slots] at X58 l58 y58 z58 st58 hQ58
    subst l58 y58 z58
    obtain ⟨rfl, Nq58, e58⟩ := hQ58
    have N58 := Fr.app N54 Nq58
    have hc62_195 : (0 : Int32) = (0 : Int32) := (by decide)
    obtain ⟨cq63, kq63, q63a, q63b, q63c⟩ := isOf hZ e58 Aq54
    obtain ⟨_, _, ⟨T63, L63, k63, n63⟩, -, X63, ⟨Lc63, hQ63, l63, y63, z63⟩, st63⟩ := X58.virtualBack hx (y := (⟨"java/lang/String", "isEmpty", "()Z"⟩ : MethodName)) (z := (⟨"java/lang/String", "isEmpty", "()Z"⟩ : MethodName)) hown (mvT hZ (hw _ (List.mem_of_getElem? (i := 54) rfl))) (mvT hZ (hw _ (List.mem_of_getElem? (i := 55) rfl))) (notFace_of_selects (args := #[]) (mvT hZ (hw _ (List.mem_of_getElem? (i := 57) rfl)))) (mvT hZ (hw _ (List.mem_of_getElem? (i := 57) rfl))) (mvT hZ (hw _ (List.mem_of_getElem? (i := 56) rfl))) (by decide) (backOf (W := 0) (rm10 l Z a0 hw [] r54 b54 kb54 (32 : Int32) _ T54.heap n0 Z54 Vq54 Rq54 (by decide)) hZ (hw _ (List.mem_of_getElem? (i := 58) rfl)) (hw _ (List.mem_of_getElem? (i := 7) rfl)) (by decide) (by decide)) q63a q63c (g := (mkF m 200 #[.val (.int p1), .val (.int p2), .val (.int p3), .val (.int p4), .val (.int p5), .val (.int (0 : Int32)), .val (.int v3), .val (.int v5), .val (.ref b6), .val (.ref b11), .val (.ref r19), .val (.ref r20), .val (.ref b21), .val (.ref b29), .val (.ref b37), .val (.ref r48), .val (.ref r48), .val (.ref r54)] [(.ref r54)])) rfl (by rw [hml]; rfl) (Steps.refl _) (argsL := []) (rest := []) (lenOf own_pd5 rfl) rfl (by show 2 * 0 + _ ≤ _; exact Nat.le_of_eq rfl) (hb hby at_200) (fun _ _ => ⟨rfl, e58, (by decide : 15 + 0 ≤ _), (by decide : 250 + 0 ≤ _)⟩)
    dsimp only [Pt.U, Pt.locs, Pt.cells, Pt.slots] at X63 l63 y63 z63 st63 hQ63
    subst l63 y63 z63
    obtain ⟨rfl, Nq63, e63⟩ := hQ63
    have N63 := Fr.app N58 Nq63
    have hc64_203 : (0 : Int32) = (0 : Int32) := (by decide)
    obtain ⟨cq65, kq65, q65a, q65b, q65c⟩ := isOf hZ e63 f61
    obtain ⟨_, _, ⟨T65, L65, k65, n65⟩, -, X65, ⟨Lc65, hQ65, l65, y65, z65⟩, st65⟩ := X63.virtualBack hx (y := (⟨"java/lang/String", "equals", "(Ljava/lang/Object;)Z"⟩ : MethodName)) (z := (⟨"java/lang/String", "equals", "(Ljava/lang/Object;)Z"⟩ : MethodName)) hown (mvT hZ (hw _ (List.mem_of_getElem? (i := 59) rfl))) (mvT hZ (hw _ (List.mem_of_getElem? (i := 60) rfl))) (notFace_of_selects (args := #[]) (mvT hZ (hw _ (List.mem_of_getElem? (i := 62) rfl)))) (mvT hZ (hw _ (List.mem_of_getElem? (i := 62) rfl))) (mvT hZ (hw _ (List.mem_of_getElem? (i := 61) rfl))) (by decide) (backOf (W := 0) (rm11s l Z a0 hw [] r48  T54.heap n0 Z54 ) hZ (hw _ (List.mem_of_getElem? (i := 63) rfl)) (hw _ (List.mem_of_getElem? (i := 7) rfl)) (by decide) (by decide)) q65a q65c (g := (mkF m 212 #[.val (.int p1), .val (.int p2), .val (.int p3), .val (.int p4), .val (.int p5), .val (.int (0 : Int32)), .val (.int v3), .val (.int v5), .val (.ref b6), .val (.ref b11), .val (.ref r19), .val (.ref r20), .val (.ref b21), .val (.ref b29), .val (.ref b37), .val (.ref r48), .val (.ref r48), .val (.ref r54)] [(.ref r48), (.ref r48)])) rfl (by rw [hml]; rfl) (Steps.refl _) (argsL := [(.ref r48)]) (rest := []) (lenOf own_pd6 rfl) rfl (by show 2 * 0 + _ ≤ _; exact Nat.le_of_eq rfl) (hb hby at_212) (fun _ _ => ⟨rfl, e63, (by decide : 15 + 0 ≤ _), (by decide : 250 + 0 ≤ _)⟩)
    dsimp only [Pt.U, Pt.locs, Pt.cells, Pt.slots] at X65 l65 y65 z65 st65 hQ65
    subst l65 y65 z65
    obtain ⟨rfl, Nq65, e65⟩ := hQ65
    have N65 := Fr.app N63 Nq65
    have hc66_215 : ¬ ((1 : Int32) = (0 : Int32)) := (by decide)
    have f68 := (Cq48.ext Eq54)
    obtain ⟨cq67, kq67, q67a, q67b, q67c⟩ := isOf hZ e65 f61
    obtain ⟨_, _, ⟨T67, L67, k67, n67⟩, -, X67, ⟨Lc67, hQ67, l67, y67, z67⟩, st67⟩ := X65.virtualBack hx (y := (⟨"java/lang/String", "equals", "(Ljava/lang/Object;)Z"⟩ : MethodName)) (z := (⟨"java/lang/String", "equals", "(Ljava/lang/Object;)Z"⟩ : MethodName)) hown (mvT hZ (hw _ (List.mem_of_getElem? (i := 59) rfl))) (mvT hZ (hw _ (List.mem_of_getElem? (i := 60) rfl))) (notFace_of_selects (args := #[]) (mvT hZ (hw _ (List.mem_of_getElem? (i := 62) rfl)))) (mvT hZ (hw _ (List.mem_of_getElem? (i := 62) rfl))) (mvT hZ (hw _ (List.mem_of_getElem? (i := 61) rfl))) (by decide) (backOf (W := 0) (rm11d l Z a0 hw [] r48 r54 G1 b48 b54 kb48 (22 : Int32) _ kb54 (32 : Int32) _ T54.heap n0 Z54 (own_sne f59 f60 Vq54 Rq54 (by decide)) Aq54 (O2.ext O54.2) P5 f68 f59 f60 Cq54 Vq54 Rq54 (by decide)) hZ (hw _ (List.mem_of_getElem? (i := 63) rfl)) (hw _ (List.mem_of_getElem? (i := 7) rfl)) (by decide) (by decide)) q67a q67c (g := (mkF m 224 #[.val (.int p1), .val (.int p2), .val (.int p3), .val (.int p4), .val (.int p5), .val (.int (0 : Int32)), .val (.int v3), .val (.int v5), .val (.ref b6), .val (.ref b11), .val (.ref r19), .val (.ref r20), .val (.ref b21), .val (.ref b29), .val (.ref b37), .val (.ref r48), .val (.ref r48), .val (.ref r54)] [(.ref r54), (.ref r48)])) rfl (by rw [hml]; rfl) (Steps.refl _) (argsL := [(.ref r54)]) (rest := []) (lenOf own_pd6 rfl) rfl (by show 2 * 0 + _ ≤ _; exact Nat.le_of_eq rfl) (hb hby at_224) (fun _ _ => ⟨rfl, e65, (by decide : 15 + 0 ≤ _), (by decide : 250 + 0 ≤ _)⟩)
    dsimp only [Pt.U, Pt.locs, Pt.cells, Pt.slots] at X67 l67 y67 z67 st67 hQ67
    subst l67 y67 z67
    obtain ⟨rfl, Nq67, e67⟩ := hQ67
    have N67 := Fr.app N65 Nq67
    have go69 : own_go p e below (s₁.setTop (entryFrame m #[(.int p1), (.int p2), (.int p3), (.int p4), (.int p5)] maxLocals)) (T67.setTop (mkF m 227 #[.val (.int p1), .val (.int p2), .val (.int p3), .val (.int p4), .val (.int p5), .val (.int (0 : Int32)), .val (.int v3), .val (.int v5), .val (.ref b6), .val (.ref b11), .val (.ref r19), .val (.ref r20), .val (.ref b21), .val (.ref b29), .val (.ref b37), .val (.ref r48), .val (.ref r48), .val (.ref r54)] [(.int (0 : Int32))])) := by
      intro ttx ktx
      refine go57 ttx ?_
      show Steps p.tables e below (T54.setTop (mkF m 183 #[.val (.int p1), .val (.int p2), .val (.int p3), .val (.int p4), .val (.int p5), .val (.int (0 : Int32)), .val (.int v3), .val (.int v5), .val (.ref b6), .val (.ref b11), .val (.ref r19), .val (.ref r20), .val (.ref b21), .val (.ref b29), .val (.ref b37), .val (.ref r48), .val (.ref r48), .val (.ref r54)] [])) _
      refine XS.aload X54.here hx rfl (hb hby at_183) rfl rfl ?_
      show Steps p.tables e below (T54.setTop (mkF m 185 #[.val (.int p1), .val (.int p2), .val (.int p3), .val (.int p4), .val (.int p5), .val (.int (0 : Int32)), .val (.int v3), .val (.int v5), .val (.ref b6), .val (.ref b11), .val (.ref r19), .val (.ref r20), .val (.ref b21), .val (.ref b29), .val (.ref b37), .val (.ref r48), .val (.ref r48), .val (.ref r54)] [(.ref r54)])) _
      refine XS.ifnonnullYes X54.here hx rfl (pc0 := 185) (pc' := 190) rfl (hb hby at_185) rfl (by decide) (by decide) ?_
      show Steps p.tables e below (T54.setTop (mkF m 190 #[.val (.int p1), .val (.int p2), .val (.int p3), .val (.int p4), .val (.int p5), .val (.int (0 : Int32)), .val (.int v3), .val (.int v5), .val (.ref b6), .val (.ref b11), .val (.ref r19), .val (.ref r20), .val (.ref b21), .val (.ref b29), .val (.ref b37), .val (.ref r48), .val (.ref r48), .val (.ref r54)] [])) _
      refine XS.aload X54.here hx rfl (hb hby at_190) rfl rfl ?_
      show Steps p.tables e below (T54.setTop (mkF m 192 #[.val (.int p1), .val (.int p2), .val (.int p3), .val (.int p4), .val (.int p5), .val (.int (0 : Int32)), .val (.int v3), .val (.int v5), .val (.ref b6), .val (.ref b11), .val (.ref r19), .val (.ref r20), .val (.ref b21), .val (.ref b29), .val (.ref b37), .val (.ref r48), .val (.ref r48), .val (.ref r54)] [(.ref r48)])) _
      refine st58.trans ?_
      show Steps p.tables e below (T58.setTop (mkF m 195 #[.val (.int p1), .val (.int p2), .val (.int p3), .val (.int p4), .val (.int p5), .val (.int (0 : Int32)), .val (.int v3), .val (.int v5), .val (.ref b6), .val (.ref b11), .val (.ref r19), .val (.ref r20), .val (.ref b21), .val (.ref b29), .val (.ref b37), .val (.ref r48), .val (.ref r48), .val (.ref r54)] [(.int (0 : Int32))])) _
      refine XS.ifNo X58.here hx rfl (hb hby at_195) rfl ((if0 _ _).trans (teq hc62_195).2) ?_
      show Steps p.tables e below (T58.setTop (mkF m 198 #[.val (.int p1), .val (.int p2), .val (.int p3), .val (.int p4), .val (.int p5), .val (.int (0 : Int32)), .val (.int v3), .val (.int v5), .val (.ref b6), .val (.ref b11), .val (.ref r19), .val (.ref r20), .val (.ref b21), .val (.ref b29), .val (.ref b37), .val (.ref r48), .val (.ref r48), .val (.ref r54)] [])) _
      refine XS.aload X58.here hx rfl (hb hby at_198) rfl rfl ?_
      show Steps p.tables e below (T58.setTop (mkF m 200 #[.val (.int p1), .val (.int p2), .val (.int p3), .val (.int p4), .val (.int p5), .val (.int (0 : Int32)), .val (.int v3), .val (.int v5), .val (.ref b6), .val (.ref b11), .val (.ref r19), .val (.ref r20), .val (.ref b21), .val (.ref b29), .val (.ref b37), .val (.ref r48), .val (.ref r48), .val (.ref r54)] [(.ref r54)])) _
      refine st63.trans ?_
      show Steps p.tables e below (T63.setTop (mkF m 203 #[.val (.int p1), .val (.int p2), .val (.int p3), .val (.int p4), .val (.int p5), .val (.int (0 : Int32)), .val (.int v3), .val (.int v5), .val (.ref b6), .val (.ref b11), .val (.ref r19), .val (.ref r20), .val (.ref b21), .val (.ref b29), .val (.ref b37), .val (.ref r48), .val (.ref r48), .val (.ref r54)] [(.int (0 : Int32))])) _
      refine XS.ifYes X63.here hx rfl (pc0 := 203) (pc' := 208) rfl (hb hby at_203) rfl ((if0 _ _).trans (teq hc64_203).1) (by decide) (by decide) ?_
      show Steps p.tables e below (T63.setTop (mkF m 208 #[.val (.int p1), .val (.int p2), .val (.int p3), .val (.int p4), .val (.int p5), .val (.int (0 : Int32)), .val (.int v3), .val (.int v5), .val (.ref b6), .val (.ref b11), .val (.ref r19), .val (.ref r20), .val (.ref b21), .val (.ref b29), .val (.ref b37), .val (.ref r48), .val (.ref r48), .val (.ref r54)] [])) _
      refine XS.aload X63.here hx rfl (hb hby at_208) rfl rfl ?_
      show Steps p.tables e below (T63.setTop (mkF m 210 #[.val (.int p1), .val (.int p2), .val (.int p3), .val (.int p4), .val (.int p5), .val (.int (0 : Int32)), .val (.int v3), .val (.int v5), .val (.ref b6), .val (.ref b11), .val (.ref r19), .val (.ref r20), .val (.ref b21), .val (.ref b29), .val (.ref b37), .val (.ref r48), .val (.ref r48), .val (.ref r54)] [(.ref r48)])) _
      refine XS.aload X63.here hx rfl (hb hby at_210) rfl rfl ?_
      show Steps p.tables e below (T63.setTop (mkF m 212 #[.val (.int p1), .val (.int p2), .val (.int p3), .val (.int p4), .val (.int p5), .val (.int (0 : Int32)), .val (.int v3), .val (.int v5), .val (.ref b6), .val (.ref b11), .val (.ref r19), .val (.ref r20), .val (.ref b21), .val (.ref b29), .val (.ref b37), .val (.ref r48), .val (.ref r48), .val (.ref r54)] [(.ref r48), (.ref r48)])) _
      refine st65.trans ?_
      show Steps p.tables e below (T65.setTop (mkF m 215 #[.val (.int p1), .val (.int p2), .val (.int p3), .val (.int p4), .val (.int p5), .val (.int (0 : Int32)), .val (.int v3), .val (.int v5), .val (.ref b6), .val (.ref b11), .val (.ref r19), .val (.ref r20), .val (.ref b21), .val (.ref b29), .val (.ref b37), .val (.ref r48), .val (.ref r48), .val (.ref r54)] [(.int (1 : Int32))])) _
      refine XS.ifYes X65.here hx rfl (pc0 := 215) (pc' := 220) rfl (hb hby at_215) rfl ((if0 _ _).trans (feq hc66_215).2) (by decide) (by decide) ?_
      show Steps p.tables e below (T65.setTop (mkF m 220 #[.val (.int p1), .val (.int p2), .val (.int p3), .val (.int p4), .val (.int p5), .val (.int (0 : Int32)), .val (.int v3), .val (.int v5), .val (.ref b6), .val (.ref b11), .val (.ref r19), .val (.ref r20), .val (.ref b21), .val (.ref b29), .val (.ref b37), .val (.ref r48), .val (.ref r48), .val (.ref r54)] [])) _
      refine XS.aload X65.here hx rfl (hb hby at_220) rfl rfl ?_
      show Steps p.tables e below (T65.setTop (mkF m 222 #[.val (.int p1), .val (.int p2), .val (.int p3), .val (.int p4), .val (.int p5), .val (.int (0 : Int32)), .val (.int v3), .val (.int v5), .val (.ref b6), .val (.ref b11), .val (.ref r19), .val (.ref r20), .val (.ref b21), .val (.ref b29), .val (.ref b37), .val (.ref r48), .val (.ref r48), .val (.ref r54)] [(.ref r48)])) _
      refine XS.aload X65.here hx rfl (hb hby at_222) rfl rfl ?_
      show Steps p.tables e below (T65.setTop (mkF m 224 #[.val (.int p1), .val (.int p2), .val (.int p3), .val (.int p4), .val (.int p5), .val (.int (0 : Int32)), .val (.int v3), .val (.int v5), .val (.ref b6), .val (.ref b11), .val (.ref r19), .val (.ref r20), .val (.ref b21), .val (.ref b29), .val (.ref b37), .val (.ref r48), .val (.ref r48), .val (.ref r54)] [(.ref r54), (.ref r48)])) _
      refine st67.trans ?_
      exact ktx
    have hc70_227 : (0 : Int32) = (0 : Int32) := (by decide)
    have f71 := ((((f39.ext E37).keep Kq47 (ninS ne38 nin0)).ext Eq48).ext Eq54)
    obtain ⟨cl72, Ar72, q72, S72, M72, H72, G72⟩ := id f71
    have hin72 : ¬ ((0 : Int32) < 0 ∨ cl72.slots.size ≤ ((0 : Int32)).toNatClampNeg) := inb_of S72 ⟨by decide, by decide⟩
    have hat72 : cl72.slots[((0 : Int32)).toNatClampNeg]? = some (.int (nar .char v3)) := Has.at H72 hin72 rfl
    have hc73_238 : (nar .char v3) = v3 := (by rw [hv_v3]; exact own_nar _)
    obtain ⟨cl74, Ar74, q74, S74, M74, H74, G74⟩ := id f71
    have hin74 : ¬ ((1 : Int32) < 0 ∨ cl74.slots.size ≤ ((1 : Int32)).toNatClampNeg) := inb_of S74 ⟨by decide, by decide⟩
    have hat74 : cl74.slots[((1 : Int32)).toNatClampNeg]? = some (.int (nar .char v5)) := Has.at H74 hin74 rfl
    have hc75_247 : (nar .char v5) = v5 := (by rw [hv_v5]; exact own_nar _)
    have go76 : own_go p e below (s₁.setTop (entryFrame m #[(.int p1), (.int p2), (.int p3), (.int p4), (.int p5)] maxLocals)) (T67.setTop (mkF m 255 #[.val (.int p1), .val (.int p2), .val (.int p3), .val (.int p4), .val (.int p5), .val (.int (0 : Int32)), .val (.int v3), .val (.int v5), .val (.ref b6), .val (.ref b11), .val (.ref r19), .val (.ref r20), .val (.ref b21), .val (.ref b29), .val (.ref b37), .val (.ref r48), .val (.ref r48), .val (.ref r54)] [(.int (1 : Int32))])) := by
      intro ttx ktx
      refine go69 ttx ?_
      show Steps p.tables e below (T67.setTop (mkF m 227 #[.val (.int p1), .val (.int p2), .val (.int p3), .val (.int p4), .val (.int p5), .val (.int (0 : Int32)), .val (.int v3), .val (.int v5), .val (.ref b6), .val (.ref b11), .val (.ref r19), .val (.ref r20), .val (.ref b21), .val (.ref b29), .val (.ref b37), .val (.ref r48), .val (.ref r48), .val (.ref r54)] [(.int (0 : Int32))])) _
      refine XS.ifYes X67.here hx rfl (pc0 := 227) (pc' := 232) rfl (hb hby at_227) rfl ((if0 _ _).trans (teq hc70_227).1) (by decide) (by decide) ?_
      show Steps p.tables e below (T67.setTop (mkF m 232 #[.val (.int p1), .val (.int p2), .val (.int p3), .val (.int p4), .val (.int p5), .val (.int (0 : Int32)), .val (.int v3), .val (.int v5), .val (.ref b6), .val (.ref b11), .val (.ref r19), .val (.ref r20), .val (.ref b21), .val (.ref b29), .val (.ref b37), .val (.ref r48), .val (.ref r48), .val (.ref r54)] [])) _
      refine XS.aload X67.here hx rfl (hb hby at_232) rfl rfl ?_
      show Steps p.tables e below (T67.setTop (mkF m 234 #[.val (.int p1), .val (.int p2), .val (.int p3), .val (.int p4), .val (.int p5), .val (.int (0 : Int32)), .val (.int v3), .val (.int v5), .val (.ref b6), .val (.ref b11), .val (.ref r19), .val (.ref r20), .val (.ref b21), .val (.ref b29), .val (.ref b37), .val (.ref r48), .val (.ref r48), .val (.ref r54)] [(.ref b6)])) _
      refine XS.iconst X67.here hx rfl (hb hby at_234) ?_
      show Steps p.tables e below (T67.setTop (mkF m 235 #[.val (.int p1), .val (.int p2), .val (.int p3), .val (.int p4), .val (.int p5), .val (.int (0 : Int32)), .val (.int v3), .val (.int v5), .val (.ref b6), .val (.ref b11), .val (.ref r19), .val (.ref r20), .val (.ref b21), .val (.ref b29), .val (.ref b37), .val (.ref r48), .val (.ref r48), .val (.ref r54)] [(.int (0 : Int32)), (.ref b6)])) _
      refine X67.caload hx (j := (0 : Int32)) (v := (.int (nar .char v3))) (own_hp e67 Ar72.1) (State.isArrayOf_alike hZ.alike Ar72.2.1) Ar72.2.2 hin72 hat72 (g := (mkF m 235 #[.val (.int p1), .val (.int p2), .val (.int p3), .val (.int p4), .val (.int p5), .val (.int (0 : Int32)), .val (.int v3), .val (.int v5), .val (.ref b6), .val (.ref b11), .val (.ref r19), .val (.ref r20), .val (.ref b21), .val (.ref b29), .val (.ref b37), .val (.ref r48), .val (.ref r48), .val (.ref r54)] [(.int (0 : Int32)), (.ref b6)])) rfl rfl (hb hby at_235) _ ?_
      show Steps p.tables e below (T67.setTop (mkF m 236 #[.val (.int p1), .val (.int p2), .val (.int p3), .val (.int p4), .val (.int p5), .val (.int (0 : Int32)), .val (.int v3), .val (.int v5), .val (.ref b6), .val (.ref b11), .val (.ref r19), .val (.ref r20), .val (.ref b21), .val (.ref b29), .val (.ref b37), .val (.ref r48), .val (.ref r48), .val (.ref r54)] [(.int (nar .char v3))])) _
      refine XS.iload X67.here hx rfl (hb hby at_236) rfl ?_
      show Steps p.tables e below (T67.setTop (mkF m 238 #[.val (.int p1), .val (.int p2), .val (.int p3), .val (.int p4), .val (.int p5), .val (.int (0 : Int32)), .val (.int v3), .val (.int v5), .val (.ref b6), .val (.ref b11), .val (.ref r19), .val (.ref r20), .val (.ref b21), .val (.ref b29), .val (.ref b37), .val (.ref r48), .val (.ref r48), .val (.ref r54)] [(.int v3), (.int (nar .char v3))])) _
      refine XS.icmpNo X67.here hx rfl (hb hby at_238) rfl (teq hc73_238).2 ?_
      show Steps p.tables e below (T67.setTop (mkF m 241 #[.val (.int p1), .val (.int p2), .val (.int p3), .val (.int p4), .val (.int p5), .val (.int (0 : Int32)), .val (.int v3), .val (.int v5), .val (.ref b6), .val (.ref b11), .val (.ref r19), .val (.ref r20), .val (.ref b21), .val (.ref b29), .val (.ref b37), .val (.ref r48), .val (.ref r48), .val (.ref r54)] [])) _
      refine XS.aload X67.here hx rfl (hb hby at_241) rfl rfl ?_
      show Steps p.tables e below (T67.setTop (mkF m 243 #[.val (.int p1), .val (.int p2), .val (.int p3), .val (.int p4), .val (.int p5), .val (.int (0 : Int32)), .val (.int v3), .val (.int v5), .val (.ref b6), .val (.ref b11), .val (.ref r19), .val (.ref r20), .val (.ref b21), .val (.ref b29), .val (.ref b37), .val (.ref r48), .val (.ref r48), .val (.ref r54)] [(.ref b6)])) _
      refine XS.iconst X67.here hx rfl (hb hby at_243) ?_
      show Steps p.tables e below (T67.setTop (mkF m 244 #[.val (.int p1), .val (.int p2), .val (.int p3), .val (.int p4), .val (.int p5), .val (.int (0 : Int32)), .val (.int v3), .val (.int v5), .val (.ref b6), .val (.ref b11), .val (.ref r19), .val (.ref r20), .val (.ref b21), .val (.ref b29), .val (.ref b37), .val (.ref r48), .val (.ref r48), .val (.ref r54)] [(.int (1 : Int32)), (.ref b6)])) _
      refine X67.caload hx (j := (1 : Int32)) (v := (.int (nar .char v5))) (own_hp e67 Ar74.1) (State.isArrayOf_alike hZ.alike Ar74.2.1) Ar74.2.2 hin74 hat74 (g := (mkF m 244 #[.val (.int p1), .val (.int p2), .val (.int p3), .val (.int p4), .val (.int p5), .val (.int (0 : Int32)), .val (.int v3), .val (.int v5), .val (.ref b6), .val (.ref b11), .val (.ref r19), .val (.ref r20), .val (.ref b21), .val (.ref b29), .val (.ref b37), .val (.ref r48), .val (.ref r48), .val (.ref r54)] [(.int (1 : Int32)), (.ref b6)])) rfl rfl (hb hby at_244) _ ?_
      show Steps p.tables e below (T67.setTop (mkF m 245 #[.val (.int p1), .val (.int p2), .val (.int p3), .val (.int p4), .val (.int p5), .val (.int (0 : Int32)), .val (.int v3), .val (.int v5), .val (.ref b6), .val (.ref b11), .val (.ref r19), .val (.ref r20), .val (.ref b21), .val (.ref b29), .val (.ref b37), .val (.ref r48), .val (.ref r48), .val (.ref r54)] [(.int (nar .char v5))])) _
      refine XS.iload X67.here hx rfl (hb hby at_245) rfl ?_
      show Steps p.tables e below (T67.setTop (mkF m 247 #[.val (.int p1), .val (.int p2), .val (.int p3), .val (.int p4), .val (.int p5), .val (.int (0 : Int32)), .val (.int v3), .val (.int v5), .val (.ref b6), .val (.ref b11), .val (.ref r19), .val (.ref r20), .val (.ref b21), .val (.ref b29), .val (.ref b37), .val (.ref r48), .val (.ref r48), .val (.ref r54)] [(.int v5), (.int (nar .char v5))])) _
      refine XS.icmpNo X67.here hx rfl (hb hby at_247) rfl (teq hc75_247).2 ?_
      show Steps p.tables e below (T67.setTop (mkF m 250 #[.val (.int p1), .val (.int p2), .val (.int p3), .val (.int p4), .val (.int p5), .val (.int (0 : Int32)), .val (.int v3), .val (.int v5), .val (.ref b6), .val (.ref b11), .val (.ref r19), .val (.ref r20), .val (.ref b21), .val (.ref b29), .val (.ref b37), .val (.ref r48), .val (.ref r48), .val (.ref r54)] [])) _
      refine XS.iconst X67.here hx rfl (hb hby at_250) ?_
      show Steps p.tables e below (T67.setTop (mkF m 251 #[.val (.int p1), .val (.int p2), .val (.int p3), .val (.int p4), .val (.int p5), .val (.int (0 : Int32)), .val (.int v3), .val (.int v5), .val (.ref b6), .val (.ref b11), .val (.ref r19), .val (.ref r20), .val (.ref b21), .val (.ref b29), .val (.ref b37), .val (.ref r48), .val (.ref r48), .val (.ref r54)] [(.int (1 : Int32))])) _
      refine XS.goto X67.here hx rfl (pc0 := 251) (pc' := 255) rfl (hb hby at_251) (by decide) (by decide) ?_
      exact ktx
    have eLL : T67.heap = T54.heap := e67
    obtain ⟨fs, hr, hrun, hended, hend⟩ := X67.leaveW hF54 (by rw [eLL]; exact Nat.le_refl _) (v := some (.int (1 : Int32))) (fun h => by rw [Bd.returns] at h; cases h)
    refine ⟨_, _, go76 _ ?_, hrun, hended, _, _, rfl, ?_, hend.1, hend.2.1, hend.2.2.1, hend.2.2.2.mono (by decide) (by decide)⟩
    · exact retN X67 hx (t := .boolean) Bd.returns (by simp) (hb hby at_255) hr
    · show Q0 Z p1 p2 p3 p4 p5 G1 h0 n0 _ T67.heap T67.vm _
      rw [e67]
      exact ⟨rfl, N67⟩
  · obtain ⟨v77, hv_v77⟩ : ∃ z : Int32, z = ((p1 &&& (255 : Int32)).toUInt32.toUInt16.toUInt32.toInt32) := ⟨_, rfl⟩
    have go78 : own_go p e below (s₁.setTop (entryFrame m #[(.int p1), (.int p2), (.int p3), (.int p4), (.int p5)] maxLocals)) (s₁.setTop (mkF m 30 #[.val (.int p1), .val (.int p2), .val (.int p3), .val (.int p4), .val (.int p5), .val (.int (1 : Int32)), .val (.int v77), .unset, .unset, .unset, .unset, .unset, .unset, .unset, .unset, .unset, .unset, .unset] [(.int (((p1.toUInt32 >>> ((8 : Int32) &&& 31).toUInt32).toInt32) &&& (255 : Int32)))])) := by
      intro ttx ktx
      refine go1 ttx ?_
      show Steps p.tables e below (s₁.setTop (mkF m 4 #[.val (.int p1), .val (.int p2), .val (.int p3), .val (.int p4), .val (.int p5), .unset, .unset, .unset, .unset, .unset, .unset, .unset, .unset, .unset, .unset, .unset, .unset, .unset] [(.int (p5 &&& (1 : Int32)))])) _
      refine XS.ifNo X0.here hx rfl (hb hby at_4) rfl ((if0 _ _).trans (feq hc2_4).1) ?_
      show Steps p.tables e below (s₁.setTop (mkF m 7 #[.val (.int p1), .val (.int p2), .val (.int p3), .val (.int p4), .val (.int p5), .unset, .unset, .unset, .unset, .unset, .unset, .unset, .unset, .unset, .unset, .unset, .unset, .unset] [])) _
      refine XS.iconst X0.here hx rfl (hb hby at_7) ?_
      show Steps p.tables e below (s₁.setTop (mkF m 8 #[.val (.int p1), .val (.int p2), .val (.int p3), .val (.int p4), .val (.int p5), .unset, .unset, .unset, .unset, .unset, .unset, .unset, .unset, .unset, .unset, .unset, .unset, .unset] [(.int (1 : Int32))])) _
      refine XS.goto X0.here hx rfl (pc0 := 8) (pc' := 12) rfl (hb hby at_8) (by decide) (by decide) ?_
      show Steps p.tables e below (s₁.setTop (mkF m 12 #[.val (.int p1), .val (.int p2), .val (.int p3), .val (.int p4), .val (.int p5), .unset, .unset, .unset, .unset, .unset, .unset, .unset, .unset, .unset, .unset, .unset, .unset, .unset] [(.int (1 : Int32))])) _
      refine XS.istore X0.here hx rfl (hb hby at_12) rfl (l' := #[.val (.int p1), .val (.int p2), .val (.int p3), .val (.int p4), .val (.int p5), .val (.int (1 : Int32)), .unset, .unset, .unset, .unset, .unset, .unset, .unset, .unset, .unset, .unset, .unset, .unset]) rfl ?_
      show Steps p.tables e below (s₁.setTop (mkF m 14 #[.val (.int p1), .val (.int p2), .val (.int p3), .val (.int p4), .val (.int p5), .val (.int (1 : Int32)), .unset, .unset, .unset, .unset, .unset, .unset, .unset, .unset, .unset, .unset, .unset, .unset] [])) _
      refine XS.iloadN X0.here hx rfl (hb hby at_14) rfl ?_
      show Steps p.tables e below (s₁.setTop (mkF m 15 #[.val (.int p1), .val (.int p2), .val (.int p3), .val (.int p4), .val (.int p5), .val (.int (1 : Int32)), .unset, .unset, .unset, .unset, .unset, .unset, .unset, .unset, .unset, .unset, .unset, .unset] [(.int p1)])) _
      refine XS.sipush X0.here hx rfl (hb hby at_15) ?_
      show Steps p.tables e below (s₁.setTop (mkF m 18 #[.val (.int p1), .val (.int p2), .val (.int p3), .val (.int p4), .val (.int p5), .val (.int (1 : Int32)), .unset, .unset, .unset, .unset, .unset, .unset, .unset, .unset, .unset, .unset, .unset, .unset] [(.int (255 : Int32)), (.int p1)])) _
      refine XS.iand X0.here hx rfl (hb hby at_18) rfl ?_
      show Steps p.tables e below (s₁.setTop (mkF m 19 #[.val (.int p1), .val (.int p2), .val (.int p3), .val (.int p4), .val (.int p5), .val (.int (1 : Int32)), .unset, .unset, .unset, .unset, .unset, .unset, .unset, .unset, .unset, .unset, .unset, .unset] [(.int (p1 &&& (255 : Int32)))])) _
      refine XS.i2c X0.here hx rfl (hb hby at_19) rfl ?_
      show Steps p.tables e below (s₁.setTop (mkF m 20 #[.val (.int p1), .val (.int p2), .val (.int p3), .val (.int p4), .val (.int p5), .val (.int (1 : Int32)), .unset, .unset, .unset, .unset, .unset, .unset, .unset, .unset, .unset, .unset, .unset, .unset] [(.int ((p1 &&& (255 : Int32)).toUInt32.toUInt16.toUInt32.toInt32))])) _
      rw [← hv_v77]
      show Steps p.tables e below (s₁.setTop (mkF m 20 #[.val (.int p1), .val (.int p2), .val (.int p3), .val (.int p4), .val (.int p5), .val (.int (1 : Int32)), .unset, .unset, .unset, .unset, .unset, .unset, .unset, .unset, .unset, .unset, .unset, .unset] [(.int v77)])) _
      refine XS.istore X0.here hx rfl (hb hby at_20) rfl (l' := #[.val (.int p1), .val (.int p2), .val (.int p3), .val (.int p4), .val (.int p5), .val (.int (1 : Int32)), .val (.int v77), .unset, .unset, .unset, .unset, .unset, .unset, .unset, .unset, .unset, .unset, .unset]) rfl ?_
      show Steps p.tables e below (s₁.setTop (mkF m 22 #[.val (.int p1), .val (.int p2), .val (.int p3), .val (.int p4), .val (.int p5), .val (.int (1 : Int32)), .val (.int v77), .unset, .unset, .unset, .unset, .unset, .unset, .unset, .unset, .unset, .unset, .unset] [])) _
      refine XS.iloadN X0.here hx rfl (hb hby at_22) rfl ?_
      show Steps p.tables e below (s₁.setTop (mkF m 23 #[.val (.int p1), .val (.int p2), .val (.int p3), .val (.int p4), .val (.int p5), .val (.int (1 : Int32)), .val (.int v77), .unset, .unset, .unset, .unset, .unset, .unset, .unset, .unset, .unset, .unset, .unset] [(.int p1)])) _
      refine XS.bipush X0.here hx rfl (hb hby at_23) ?_
      show Steps p.tables e below (s₁.setTop (mkF m 25 #[.val (.int p1), .val (.int p2), .val (.int p3), .val (.int p4), .val (.int p5), .val (.int (1 : Int32)), .val (.int v77), .unset, .unset, .unset, .unset, .unset, .unset, .unset, .unset, .unset, .unset, .unset] [(.int (8 : Int32)), (.int p1)])) _
      refine XS.iushr X0.here hx rfl (hb hby at_25) rfl ?_
      show Steps p.tables e below (s₁.setTop (mkF m 26 #[.val (.int p1), .val (.int p2), .val (.int p3), .val (.int p4), .val (.int p5), .val (.int (1 : Int32)), .val (.int v77), .unset, .unset, .unset, .unset, .unset, .unset, .unset, .unset, .unset, .unset, .unset] [(.int ((p1.toUInt32 >>> ((8 : Int32) &&& 31).toUInt32).toInt32))])) _
      refine XS.sipush X0.here hx rfl (hb hby at_26) ?_
      show Steps p.tables e below (s₁.setTop (mkF m 29 #[.val (.int p1), .val (.int p2), .val (.int p3), .val (.int p4), .val (.int p5), .val (.int (1 : Int32)), .val (.int v77), .unset, .unset, .unset, .unset, .unset, .unset, .unset, .unset, .unset, .unset, .unset] [(.int (255 : Int32)), (.int ((p1.toUInt32 >>> ((8 : Int32) &&& 31).toUInt32).toInt32))])) _
      refine XS.iand X0.here hx rfl (hb hby at_29) rfl ?_
      exact ktx
    obtain ⟨v79, hv_v79⟩ : ∃ z : Int32, z = ((((p1.toUInt32 >>> ((8 : Int32) &&& 31).toUInt32).toInt32) &&& (255 : Int32)).toUInt32.toUInt16.toUInt32.toInt32) := ⟨_, rfl⟩
    obtain ⟨T80, h80, k80, X80, e80, E80, A80, st80⟩ := newP X0 hx hZ (hw _ (List.mem_of_getElem? (i := 0) rfl)) e0 (g := (mkF m 34 #[.val (.int p1), .val (.int p2), .val (.int p3), .val (.int p4), .val (.int p5), .val (.int (1 : Int32)), .val (.int v77), .val (.int v79), .unset, .unset, .unset, .unset, .unset, .unset, .unset, .unset, .unset, .unset] [(.int (2 : Int32))])) rfl (hb hby at_34) rfl (by decide) (cap := 2) (by decide) (by decide) (by decide) (by decide)
    obtain ⟨b80, g80⟩ : ∃ z, z = h0.size := ⟨_, rfl⟩
    rw [← g80] at A80 st80
    have g_b80 : n0 ≤ b80 := Nat.le_trans Z0 (Nat.le_of_eq g80.symm)
    have Z80 : n0 ≤ h80.size := Nat.le_trans Z0 E80.1
    have O80 := O0.ext E80
    have V80 : Arv Z h80 b80 k80 .char (2 : Int32) [(.int (0 : Int32)), (.int (0 : Int32))] (.int (0 : Int32)) := (Arv.new A80 (by decide)).pad (pad_rep [] (.int (0 : Int32)) 2)
    obtain ⟨cl81, Ar81, q81, S81, M81, H81, G81⟩ := id V80
    have hin81 : ¬ ((0 : Int32) < 0 ∨ cl81.slots.size ≤ ((0 : Int32)).toNatClampNeg) := inb_of S81 ⟨by decide, by decide⟩
    obtain ⟨T82, h82, X82, e82, W82, st82⟩ := stC X80 hx hZ e80 Ar81 (j := (0 : Int32)) hin81 (g := (mkF m 40 #[.val (.int p1), .val (.int p2), .val (.int p3), .val (.int p4), .val (.int p5), .val (.int (1 : Int32)), .val (.int v77), .val (.int v79), .unset, .unset, .unset, .unset, .unset, .unset, .unset, .unset, .unset, .unset] [(.int v77), (.int (0 : Int32)), (.ref b80), (.ref b80)])) rfl rfl (hb hby at_40)
    have Z82 : n0 ≤ h82.size := Nat.le_trans Z80 (Nat.le_of_eq W82.size.symm)
    have O82 := O80.wr W82 g_b80
    have N82 := Fr.snoc X82 N0 g_b80
    have V82 : Arv Z h82 b80 k80 .char (2 : Int32) [(.int (nar .char v77)), (.int (0 : Int32))] (.int (0 : Int32)) := Arv.set Ar81 q81 S81 M81 H81 G81 (fits_nar_char _) W82 0 rfl (Nat.le_of_ble_eq_true rfl)
    obtain ⟨cl83, Ar83, q83, S83, M83, H83, G83⟩ := id V82
    have hin83 : ¬ ((1 : Int32) < 0 ∨ cl83.slots.size ≤ ((1 : Int32)).toNatClampNeg) := inb_of S83 ⟨by decide, by decide⟩
    obtain ⟨T84, h84, X84, e84, W84, st84⟩ := stC X82 hx hZ e82 Ar83 (j := (1 : Int32)) hin83 (g := (mkF m 45 #[.val (.int p1), .val (.int p2), .val (.int p3), .val (.int p4), .val (.int p5), .val (.int (1 : Int32)), .val (.int v77), .val (.int v79), .unset, .unset, .unset, .unset, .unset, .unset, .unset, .unset, .unset, .unset] [(.int v79), (.int (1 : Int32)), (.ref b80), (.ref b80)])) rfl rfl (hb hby at_45)
    have Z84 : n0 ≤ h84.size := Nat.le_trans Z82 (Nat.le_of_eq W84.size.symm)
    have O84 := O82.wr W84 g_b80
    have N84 := Fr.snoc X84 N82 g_b80
    have V84 : Arv Z h84 b80 k80 .char (2 : Int32) [(.int (nar .char v77)), (.int (nar .char v79))] (.int (0 : Int32)) := Arv.set Ar83 q83 S83 M83 H83 G83 (fits_nar_char _) W84 1 rfl (Nat.le_of_ble_eq_true rfl)
    have go85 : own_go p e below (s₁.setTop (entryFrame m #[(.int p1), (.int p2), (.int p3), (.int p4), (.int p5)] maxLocals)) (T84.setTop (mkF m 49 #[.val (.int p1), .val (.int p2), .val (.int p3), .val (.int p4), .val (.int p5), .val (.int (1 : Int32)), .val (.int v77), .val (.int v79), .val (.ref b80), .unset, .unset, .unset, .unset, .unset, .unset, .unset, .unset, .unset] [(.int (2 : Int32))])) := by
      intro ttx ktx
      refine go78 ttx ?_
      show Steps p.tables e below (s₁.setTop (mkF m 30 #[.val (.int p1), .val (.int p2), .val (.int p3), .val (.int p4), .val (.int p5), .val (.int (1 : Int32)), .val (.int v77), .unset, .unset, .unset, .unset, .unset, .unset, .unset, .unset, .unset, .unset, .unset] [(.int (((p1.toUInt32 >>> ((8 : Int32) &&& 31).toUInt32).toInt32) &&& (255 : Int32)))])) _
      refine XS.i2c X0.here hx rfl (hb hby at_30) rfl ?_
      show Steps p.tables e below (s₁.setTop (mkF m 31 #[.val (.int p1), .val (.int p2), .val (.int p3), .val (.int p4), .val (.int p5), .val (.int (1 : Int32)), .val (.int v77), .unset, .unset, .unset, .unset, .unset, .unset, .unset, .unset, .unset, .unset, .unset] [(.int ((((p1.toUInt32 >>> ((8 : Int32) &&& 31).toUInt32).toInt32) &&& (255 : Int32)).toUInt32.toUInt16.toUInt32.toInt32))])) _
      rw [← hv_v79]
      show Steps p.tables e below (s₁.setTop (mkF m 31 #[.val (.int p1), .val (.int p2), .val (.int p3), .val (.int p4), .val (.int p5), .val (.int (1 : Int32)), .val (.int v77), .unset, .unset, .unset, .unset, .unset, .unset, .unset, .unset, .unset, .unset, .unset] [(.int v79)])) _
      refine XS.istore X0.here hx rfl (hb hby at_31) rfl (l' := #[.val (.int p1), .val (.int p2), .val (.int p3), .val (.int p4), .val (.int p5), .val (.int (1 : Int32)), .val (.int v77), .val (.int v79), .unset, .unset, .unset, .unset, .unset, .unset, .unset, .unset, .unset, .unset]) rfl ?_
      show Steps p.tables e below (s₁.setTop (mkF m 33 #[.val (.int p1), .val (.int p2), .val (.int p3), .val (.int p4), .val (.int p5), .val (.int (1 : Int32)), .val (.int v77), .val (.int v79), .unset, .unset, .unset, .unset, .unset, .unset, .unset, .unset, .unset, .unset] [])) _
      refine XS.iconst X0.here hx rfl (hb hby at_33) ?_
      show Steps p.tables e below (s₁.setTop (mkF m 34 #[.val (.int p1), .val (.int p2), .val (.int p3), .val (.int p4), .val (.int p5), .val (.int (1 : Int32)), .val (.int v77), .val (.int v79), .unset, .unset, .unset, .unset, .unset, .unset, .unset, .unset, .unset, .unset] [(.int (2 : Int32))])) _
      refine st80 _ ?_
      show Steps p.tables e below (T80.setTop (mkF m 36 #[.val (.int p1), .val (.int p2), .val (.int p3), .val (.int p4), .val (.int p5), .val (.int (1 : Int32)), .val (.int v77), .val (.int v79), .unset, .unset, .unset, .unset, .unset, .unset, .unset, .unset, .unset, .unset] [(.ref b80)])) _
      refine XS.dup X80.here hx rfl (hb hby at_36) rfl rfl ?_
      show Steps p.tables e below (T80.setTop (mkF m 37 #[.val (.int p1), .val (.int p2), .val (.int p3), .val (.int p4), .val (.int p5), .val (.int (1 : Int32)), .val (.int v77), .val (.int v79), .unset, .unset, .unset, .unset, .unset, .unset, .unset, .unset, .unset, .unset] [(.ref b80), (.ref b80)])) _
      refine XS.iconst X80.here hx rfl (hb hby at_37) ?_
      show Steps p.tables e below (T80.setTop (mkF m 38 #[.val (.int p1), .val (.int p2), .val (.int p3), .val (.int p4), .val (.int p5), .val (.int (1 : Int32)), .val (.int v77), .val (.int v79), .unset, .unset, .unset, .unset, .unset, .unset, .unset, .unset, .unset, .unset] [(.int (0 : Int32)), (.ref b80), (.ref b80)])) _
      refine XS.iload X80.here hx rfl (hb hby at_38) rfl ?_
      show Steps p.tables e below (T80.setTop (mkF m 40 #[.val (.int p1), .val (.int p2), .val (.int p3), .val (.int p4), .val (.int p5), .val (.int (1 : Int32)), .val (.int v77), .val (.int v79), .unset, .unset, .unset, .unset, .unset, .unset, .unset, .unset, .unset, .unset] [(.int v77), (.int (0 : Int32)), (.ref b80), (.ref b80)])) _
      refine st82 _ ?_
      show Steps p.tables e below (T82.setTop (mkF m 41 #[.val (.int p1), .val (.int p2), .val (.int p3), .val (.int p4), .val (.int p5), .val (.int (1 : Int32)), .val (.int v77), .val (.int v79), .unset, .unset, .unset, .unset, .unset, .unset, .unset, .unset, .unset, .unset] [(.ref b80)])) _
      refine XS.dup X82.here hx rfl (hb hby at_41) rfl rfl ?_
      show Steps p.tables e below (T82.setTop (mkF m 42 #[.val (.int p1), .val (.int p2), .val (.int p3), .val (.int p4), .val (.int p5), .val (.int (1 : Int32)), .val (.int v77), .val (.int v79), .unset, .unset, .unset, .unset, .unset, .unset, .unset, .unset, .unset, .unset] [(.ref b80), (.ref b80)])) _
      refine XS.iconst X82.here hx rfl (hb hby at_42) ?_
      show Steps p.tables e below (T82.setTop (mkF m 43 #[.val (.int p1), .val (.int p2), .val (.int p3), .val (.int p4), .val (.int p5), .val (.int (1 : Int32)), .val (.int v77), .val (.int v79), .unset, .unset, .unset, .unset, .unset, .unset, .unset, .unset, .unset, .unset] [(.int (1 : Int32)), (.ref b80), (.ref b80)])) _
      refine XS.iload X82.here hx rfl (hb hby at_43) rfl ?_
      show Steps p.tables e below (T82.setTop (mkF m 45 #[.val (.int p1), .val (.int p2), .val (.int p3), .val (.int p4), .val (.int p5), .val (.int (1 : Int32)), .val (.int v77), .val (.int v79), .unset, .unset, .unset, .unset, .unset, .unset, .unset, .unset, .unset, .unset] [(.int v79), (.int (1 : Int32)), (.ref b80), (.ref b80)])) _
      refine st84 _ ?_
      show Steps p.tables e below (T84.setTop (mkF m 46 #[.val (.int p1), .val (.int p2), .val (.int p3), .val (.int p4), .val (.int p5), .val (.int (1 : Int32)), .val (.int v77), .val (.int v79), .unset, .unset, .unset, .unset, .unset, .unset, .unset, .unset, .unset, .unset] [(.ref b80)])) _
      refine XS.astore X84.here hx rfl (hb hby at_46) rfl rfl (l' := #[.val (.int p1), .val (.int p2), .val (.int p3), .val (.int p4), .val (.int p5), .val (.int (1 : Int32)), .val (.int v77), .val (.int v79), .val (.ref b80), .unset, .unset, .unset, .unset, .unset, .unset, .unset, .unset, .unset]) rfl ?_
      show Steps p.tables e below (T84.setTop (mkF m 48 #[.val (.int p1), .val (.int p2), .val (.int p3), .val (.int p4), .val (.int p5), .val (.int (1 : Int32)), .val (.int v77), .val (.int v79), .val (.ref b80), .unset, .unset, .unset, .unset, .unset, .unset, .unset, .unset, .unset] [])) _
      refine XS.iconst X84.here hx rfl (hb hby at_48) ?_
      exact ktx
    obtain ⟨T86, h86, k86, X86, e86, E86, A86, st86⟩ := newP X84 hx hZ (hw _ (List.mem_of_getElem? (i := 0) rfl)) e84 (g := (mkF m 49 #[.val (.int p1), .val (.int p2), .val (.int p3), .val (.int p4), .val (.int p5), .val (.int (1 : Int32)), .val (.int v77), .val (.int v79), .val (.ref b80), .unset, .unset, .unset, .unset, .unset, .unset, .unset, .unset, .unset] [(.int (2 : Int32))])) rfl (hb hby at_49) rfl (by decide) (cap := 2) (by decide) (by decide) (by decide) (by decide)
    obtain ⟨b86, g86⟩ : ∃ z, z = h84.size := ⟨_, rfl⟩
    rw [← g86] at A86 st86
    have ne87 : b80 ≠ b86 := Nat.ne_of_lt (Nat.lt_of_lt_of_le V84.lt (Nat.le_of_eq g86.symm))
    have g_b86 : n0 ≤ b86 := Nat.le_trans Z84 (Nat.le_of_eq g86.symm)
    have Z86 : n0 ≤ h86.size := Nat.le_trans Z84 E86.1
    have O86 := O84.ext E86
    have V86 : Arv Z h86 b86 k86 .char (2 : Int32) [(.int (0 : Int32)), (.int (0 : Int32))] (.int (0 : Int32)) := (Arv.new A86 (by decide)).pad (pad_rep [] (.int (0 : Int32)) 2)
    obtain ⟨cl88, Ar88, q88, S88, M88, H88, G88⟩ := id V86
    have hin88 : ¬ ((0 : Int32) < 0 ∨ cl88.slots.size ≤ ((0 : Int32)).toNatClampNeg) := inb_of S88 ⟨by decide, by decide⟩
    obtain ⟨T89, h89, X89, e89, W89, st89⟩ := stC X86 hx hZ e86 Ar88 (j := (0 : Int32)) hin88 (g := (mkF m 59 #[.val (.int p1), .val (.int p2), .val (.int p3), .val (.int p4), .val (.int p5), .val (.int (1 : Int32)), .val (.int v77), .val (.int v79), .val (.ref b80), .unset, .unset, .unset, .unset, .unset, .unset, .unset, .unset, .unset] [(.int ((p2 &&& (255 : Int32)).toUInt32.toUInt16.toUInt32.toInt32)), (.int (0 : Int32)), (.ref b86), (.ref b86)])) rfl rfl (hb hby at_59)
    have Z89 : n0 ≤ h89.size := Nat.le_trans Z86 (Nat.le_of_eq W89.size.symm)
    have O89 := O86.wr W89 g_b86
    have N89 := Fr.snoc X89 N84 g_b86
    have V89 : Arv Z h89 b86 k86 .char (2 : Int32) [(.int (nar .char ((p2 &&& (255 : Int32)).toUInt32.toUInt16.toUInt32.toInt32))), (.int (0 : Int32))] (.int (0 : Int32)) := Arv.set Ar88 q88 S88 M88 H88 G88 (fits_nar_char _) W89 0 rfl (Nat.le_of_ble_eq_true rfl)
    have go90 : own_go p e below (s₁.setTop (entryFrame m #[(.int p1), (.int p2), (.int p3), (.int p4), (.int p5)] maxLocals)) (T89.setTop (mkF m 70 #[.val (.int p1), .val (.int p2), .val (.int p3), .val (.int p4), .val (.int p5), .val (.int (1 : Int32)), .val (.int v77), .val (.int v79), .val (.ref b80), .unset, .unset, .unset, .unset, .unset, .unset, .unset, .unset, .unset] [(.int (((p2.toUInt32 >>> ((8 : Int32) &&& 31).toUInt32).toInt32) &&& (255 : Int32))), (.int (1 : Int32)), (.ref b86), (.ref b86)])) := by
      intro ttx ktx
      refine go85 ttx ?_
      show Steps p.tables e below (T84.setTop (mkF m 49 #[.val (.int p1), .val (.int p2), .val (.int p3), .val (.int p4), .val (.int p5), .val (.int (1 : Int32)), .val (.int v77), .val (.int v79), .val (.ref b80), .unset, .unset, .unset, .unset, .unset, .unset, .unset, .unset, .unset] [(.int (2 : Int32))])) _
      refine st86 _ ?_
      show Steps p.tables e below (T86.setTop (mkF m 51 #[.val (.int p1), .val (.int p2), .val (.int p3), .val (.int p4), .val (.int p5), .val (.int (1 : Int32)), .val (.int v77), .val (.int v79), .val (.ref b80), .unset, .unset, .unset, .unset, .unset, .unset, .unset, .unset, .unset] [(.ref b86)])) _
      refine XS.dup X86.here hx rfl (hb hby at_51) rfl rfl ?_
      show Steps p.tables e below (T86.setTop (mkF m 52 #[.val (.int p1), .val (.int p2), .val (.int p3), .val (.int p4), .val (.int p5), .val (.int (1 : Int32)), .val (.int v77), .val (.int v79), .val (.ref b80), .unset, .unset, .unset, .unset, .unset, .unset, .unset, .unset, .unset] [(.ref b86), (.ref b86)])) _
      refine XS.iconst X86.here hx rfl (hb hby at_52) ?_
      show Steps p.tables e below (T86.setTop (mkF m 53 #[.val (.int p1), .val (.int p2), .val (.int p3), .val (.int p4), .val (.int p5), .val (.int (1 : Int32)), .val (.int v77), .val (.int v79), .val (.ref b80), .unset, .unset, .unset, .unset, .unset, .unset, .unset, .unset, .unset] [(.int (0 : Int32)), (.ref b86), (.ref b86)])) _
      refine XS.iloadN X86.here hx rfl (hb hby at_53) rfl ?_
      show Steps p.tables e below (T86.setTop (mkF m 54 #[.val (.int p1), .val (.int p2), .val (.int p3), .val (.int p4), .val (.int p5), .val (.int (1 : Int32)), .val (.int v77), .val (.int v79), .val (.ref b80), .unset, .unset, .unset, .unset, .unset, .unset, .unset, .unset, .unset] [(.int p2), (.int (0 : Int32)), (.ref b86), (.ref b86)])) _
      refine XS.sipush X86.here hx rfl (hb hby at_54) ?_
      show Steps p.tables e below (T86.setTop (mkF m 57 #[.val (.int p1), .val (.int p2), .val (.int p3), .val (.int p4), .val (.int p5), .val (.int (1 : Int32)), .val (.int v77), .val (.int v79), .val (.ref b80), .unset, .unset, .unset, .unset, .unset, .unset, .unset, .unset, .unset] [(.int (255 : Int32)), (.int p2), (.int (0 : Int32)), (.ref b86), (.ref b86)])) _
      refine XS.iand X86.here hx rfl (hb hby at_57) rfl ?_
      show Steps p.tables e below (T86.setTop (mkF m 58 #[.val (.int p1), .val (.int p2), .val (.int p3), .val (.int p4), .val (.int p5), .val (.int (1 : Int32)), .val (.int v77), .val (.int v79), .val (.ref b80), .unset, .unset, .unset, .unset, .unset, .unset, .unset, .unset, .unset] [(.int (p2 &&& (255 : Int32))), (.int (0 : Int32)), (.ref b86), (.ref b86)])) _
      refine XS.i2c X86.here hx rfl (hb hby at_58) rfl ?_
      show Steps p.tables e below (T86.setTop (mkF m 59 #[.val (.int p1), .val (.int p2), .val (.int p3), .val (.int p4), .val (.int p5), .val (.int (1 : Int32)), .val (.int v77), .val (.int v79), .val (.ref b80), .unset, .unset, .unset, .unset, .unset, .unset, .unset, .unset, .unset] [(.int ((p2 &&& (255 : Int32)).toUInt32.toUInt16.toUInt32.toInt32)), (.int (0 : Int32)), (.ref b86), (.ref b86)])) _
      refine st89 _ ?_
      show Steps p.tables e below (T89.setTop (mkF m 60 #[.val (.int p1), .val (.int p2), .val (.int p3), .val (.int p4), .val (.int p5), .val (.int (1 : Int32)), .val (.int v77), .val (.int v79), .val (.ref b80), .unset, .unset, .unset, .unset, .unset, .unset, .unset, .unset, .unset] [(.ref b86)])) _
      refine XS.dup X89.here hx rfl (hb hby at_60) rfl rfl ?_
      show Steps p.tables e below (T89.setTop (mkF m 61 #[.val (.int p1), .val (.int p2), .val (.int p3), .val (.int p4), .val (.int p5), .val (.int (1 : Int32)), .val (.int v77), .val (.int v79), .val (.ref b80), .unset, .unset, .unset, .unset, .unset, .unset, .unset, .unset, .unset] [(.ref b86), (.ref b86)])) _
      refine XS.iconst X89.here hx rfl (hb hby at_61) ?_
      show Steps p.tables e below (T89.setTop (mkF m 62 #[.val (.int p1), .val (.int p2), .val (.int p3), .val (.int p4), .val (.int p5), .val (.int (1 : Int32)), .val (.int v77), .val (.int v79), .val (.ref b80), .unset, .unset, .unset, .unset, .unset, .unset, .unset, .unset, .unset] [(.int (1 : Int32)), (.ref b86), (.ref b86)])) _
      refine XS.iloadN X89.here hx rfl (hb hby at_62) rfl ?_
      show Steps p.tables e below (T89.setTop (mkF m 63 #[.val (.int p1), .val (.int p2), .val (.int p3), .val (.int p4), .val (.int p5), .val (.int (1 : Int32)), .val (.int v77), .val (.int v79), .val (.ref b80), .unset, .unset, .unset, .unset, .unset, .unset, .unset, .unset, .unset] [(.int p2), (.int (1 : Int32)), (.ref b86), (.ref b86)])) _
      refine XS.bipush X89.here hx rfl (hb hby at_63) ?_
      show Steps p.tables e below (T89.setTop (mkF m 65 #[.val (.int p1), .val (.int p2), .val (.int p3), .val (.int p4), .val (.int p5), .val (.int (1 : Int32)), .val (.int v77), .val (.int v79), .val (.ref b80), .unset, .unset, .unset, .unset, .unset, .unset, .unset, .unset, .unset] [(.int (8 : Int32)), (.int p2), (.int (1 : Int32)), (.ref b86), (.ref b86)])) _
      refine XS.iushr X89.here hx rfl (hb hby at_65) rfl ?_
      show Steps p.tables e below (T89.setTop (mkF m 66 #[.val (.int p1), .val (.int p2), .val (.int p3), .val (.int p4), .val (.int p5), .val (.int (1 : Int32)), .val (.int v77), .val (.int v79), .val (.ref b80), .unset, .unset, .unset, .unset, .unset, .unset, .unset, .unset, .unset] [(.int ((p2.toUInt32 >>> ((8 : Int32) &&& 31).toUInt32).toInt32)), (.int (1 : Int32)), (.ref b86), (.ref b86)])) _
      refine XS.sipush X89.here hx rfl (hb hby at_66) ?_
      show Steps p.tables e below (T89.setTop (mkF m 69 #[.val (.int p1), .val (.int p2), .val (.int p3), .val (.int p4), .val (.int p5), .val (.int (1 : Int32)), .val (.int v77), .val (.int v79), .val (.ref b80), .unset, .unset, .unset, .unset, .unset, .unset, .unset, .unset, .unset] [(.int (255 : Int32)), (.int ((p2.toUInt32 >>> ((8 : Int32) &&& 31).toUInt32).toInt32)), (.int (1 : Int32)), (.ref b86), (.ref b86)])) _
      refine XS.iand X89.here hx rfl (hb hby at_69) rfl ?_
      exact ktx
    obtain ⟨cl91, Ar91, q91, S91, M91, H91, G91⟩ := id V89
    have hin91 : ¬ ((1 : Int32) < 0 ∨ cl91.slots.size ≤ ((1 : Int32)).toNatClampNeg) := inb_of S91 ⟨by decide, by decide⟩
    obtain ⟨T92, h92, X92, e92, W92, st92⟩ := stC X89 hx hZ e89 Ar91 (j := (1 : Int32)) hin91 (g := (mkF m 71 #[.val (.int p1), .val (.int p2), .val (.int p3), .val (.int p4), .val (.int p5), .val (.int (1 : Int32)), .val (.int v77), .val (.int v79), .val (.ref b80), .unset, .unset, .unset, .unset, .unset, .unset, .unset, .unset, .unset] [(.int ((((p2.toUInt32 >>> ((8 : Int32) &&& 31).toUInt32).toInt32) &&& (255 : Int32)).toUInt32.toUInt16.toUInt32.toInt32)), (.int (1 : Int32)), (.ref b86), (.ref b86)])) rfl rfl (hb hby at_71)
    have Z92 : n0 ≤ h92.size := Nat.le_trans Z89 (Nat.le_of_eq W92.size.symm)
    have O92 := O89.wr W92 g_b86
    have N92 := Fr.snoc X92 N89 g_b86
    have V92 : Arv Z h92 b86 k86 .char (2 : Int32) [(.int (nar .char ((p2 &&& (255 : Int32)).toUInt32.toUInt16.toUInt32.toInt32))), (.int (nar .char ((((p2.toUInt32 >>> ((8 : Int32) &&& 31).toUInt32).toInt32) &&& (255 : Int32)).toUInt32.toUInt16.toUInt32.toInt32)))] (.int (0 : Int32)) := Arv.set Ar91 q91 S91 M91 H91 G91 (fits_nar_char _) W92 1 rfl (Nat.le_of_ble_eq_true rfl)
    obtain ⟨_, _, ⟨T93, L93, k93, n93⟩, -, X93, ⟨Lc93, hQ93, l93, y93, z93⟩, st93⟩ := Jvm.LawKit.callS X92 hx (y := (⟨"io/subjectwire/auth/CredentialsToStringPinLaw", "drawn", "(I)Ljava/lang/String;"⟩ : MethodName)) hown (mvT hZ (hw _ (List.mem_of_getElem? (i := 1) rfl))) (mvT hZ (hw _ (List.mem_of_getElem? (i := 2) rfl))) (mvT hZ (hw _ (List.mem_of_getElem? (i := 3) rfl))) (mvT hZ (hw _ (List.mem_of_getElem? (i := 4) rfl))) (by decide) (backOf (W := 0) (rm1 l Z a0 hw [] p3 G1 h92 n0 Z92 O2 P5 O92) hZ (hw _ (List.mem_of_getElem? (i := 4) rfl)) (hw _ (List.mem_of_getElem? (i := 3) rfl)) (by decide) (by decide)) (g := (mkF m 75 #[.val (.int p1), .val (.int p2), .val (.int p3), .val (.int p4), .val (.int p5), .val (.int (1 : Int32)), .val (.int v77), .val (.int v79), .val (.ref b80), .val (.ref b86), .unset, .unset, .unset, .unset, .unset, .unset, .unset, .unset] [(.int p3)])) rfl (by rw [hml]; rfl) (argsL := [(.int p3)]) (rest := []) (lenOf own_pd2 rfl) rfl (by show 2 * 0 + _ ≤ _; exact Nat.le_of_eq rfl) (hb hby at_75) (fun _ _ => ⟨rfl, e92, (by decide : 2 + 3 ≤ _), (by decide : 4 + 8 ≤ _)⟩)
    dsimp only [Pt.U, Pt.locs, Pt.cells, Pt.slots] at X93 l93 y93 z93 st93 hQ93
    subst l93 y93 z93
    obtain ⟨r93, rfl, Nq93, Kq93⟩ := hQ93
    have N93 := Fr.app N92 Nq93
    have Z93 : n0 ≤ T93.heap.size := Nat.le_trans Z92 Kq93.1
    have O93 := O92.keep Kq93 all0
    obtain ⟨_, _, ⟨T94, L94, k94, n94⟩, -, X94, ⟨Lc94, hQ94, l94, y94, z94⟩, st94⟩ := Jvm.LawKit.callS X93 hx (y := (⟨"io/subjectwire/auth/CredentialsToStringPinLaw", "drawn", "(I)Ljava/lang/String;"⟩ : MethodName)) hown (mvT hZ (hw _ (List.mem_of_getElem? (i := 1) rfl))) (mvT hZ (hw _ (List.mem_of_getElem? (i := 2) rfl))) (mvT hZ (hw _ (List.mem_of_getElem? (i := 3) rfl))) (mvT hZ (hw _ (List.mem_of_getElem? (i := 4) rfl))) (by decide) (backOf (W := 0) (rm1 l Z a0 hw [] p4 G1 T93.heap n0 Z93 O2 P5 O93) hZ (hw _ (List.mem_of_getElem? (i := 4) rfl)) (hw _ (List.mem_of_getElem? (i := 3) rfl)) (by decide) (by decide)) (g := (mkF m 81 #[.val (.int p1), .val (.int p2), .val (.int p3), .val (.int p4), .val (.int p5), .val (.int (1 : Int32)), .val (.int v77), .val (.int v79), .val (.ref b80), .val (.ref b86), .val (.ref r93), .unset, .unset, .unset, .unset, .unset, .unset, .unset] [(.int p4)])) rfl (by rw [hml]; rfl) (argsL := [(.int p4)]) (rest := []) (lenOf own_pd2 rfl) rfl (by show 2 * 0 + _ ≤ _; exact Nat.le_of_eq rfl) (hb hby at_81) (fun _ _ => ⟨rfl, rfl, (by decide : 5 + 3 ≤ _), (by decide : 12 + 8 ≤ _)⟩)
    dsimp only [Pt.U, Pt.locs, Pt.cells, Pt.slots] at X94 l94 y94 z94 st94 hQ94
    subst l94 y94 z94
    obtain ⟨r94, rfl, Nq94, Kq94⟩ := hQ94
    have N94 := Fr.app N93 Nq94
    have Z94 : n0 ≤ T94.heap.size := Nat.le_trans Z93 Kq94.1
    have O94 := O93.keep Kq94 all0
    obtain ⟨T95, h95, X95, e95, E95, A95, D95, -, st95⟩ := newO X94 hx hZ hown (hw _ (List.mem_of_getElem? (i := 34) rfl)) (hw _ (List.mem_of_getElem? (i := 35) rfl)) (hw _ (List.mem_of_getElem? (i := 36) rfl)) rfl (g := (mkF m 86 #[.val (.int p1), .val (.int p2), .val (.int p3), .val (.int p4), .val (.int p5), .val (.int (1 : Int32)), .val (.int v77), .val (.int v79), .val (.ref b80), .val (.ref b86), .val (.ref r93), .val (.ref r94), .unset, .unset, .unset, .unset, .unset, .unset] [])) rfl (hb hby at_86) (by decide) (by decide)
    obtain ⟨b95, g95⟩ : ∃ z, z = T94.heap.size := ⟨_, rfl⟩
    rw [← g95] at A95 D95 st95
    have f97 := (((((V84.ext E86).other W89 ne87).other W92 ne87).keep Kq93 nin0).keep Kq94 nin0)
    have ne96 : b80 ≠ b95 := Nat.ne_of_lt (Nat.lt_of_lt_of_le f97.lt (Nat.le_of_eq g95.symm))
    have f99 := ((V92.keep Kq93 nin0).keep Kq94 nin0)
    have ne98 : b86 ≠ b95 := Nat.ne_of_lt (Nat.lt_of_lt_of_le f99.lt (Nat.le_of_eq g95.symm))
    have g_b95 : n0 ≤ b95 := Nat.le_trans Z94 (Nat.le_of_eq g95.symm)
    have Z95 : n0 ≤ h95.size := Nat.le_trans Z94 E95.1
    have O95 := O94.ext E95
    have F95_jwt : Fld Z h95 b95 "io/subjectwire/auth/Credentials" "jwt" "Ljava/lang/String;" .null := D95 (Or.inr (hw _ (List.mem_of_getElem? (i := 42) rfl))) (ty := (.object "java/lang/String")) (by decide)
    have F95_seed : Fld Z h95 b95 "io/subjectwire/auth/Credentials" "seed" "[C" .null := D95 (Or.inr (hw _ (List.mem_of_getElem? (i := 44) rfl))) (ty := (.array .char)) (by decide)
    have hc100_92 : ¬ ((1 : Int32) = (0 : Int32)) := (by decide)
    have go101 : own_go p e below (s₁.setTop (entryFrame m #[(.int p1), (.int p2), (.int p3), (.int p4), (.int p5)] maxLocals)) (T95.setTop (mkF m 101 #[.val (.int p1), .val (.int p2), .val (.int p3), .val (.int p4), .val (.int p5), .val (.int (1 : Int32)), .val (.int v77), .val (.int v79), .val (.ref b80), .val (.ref b86), .val (.ref r93), .val (.ref r94), .unset, .unset, .unset, .unset, .unset, .unset] [(.ref r93), (.ref b95), (.ref b95)])) := by
      intro ttx ktx
      refine go90 ttx ?_
      show Steps p.tables e below (T89.setTop (mkF m 70 #[.val (.int p1), .val (.int p2), .val (.int p3), .val (.int p4), .val (.int p5), .val (.int (1 : Int32)), .val (.int v77), .val (.int v79), .val (.ref b80), .unset, .unset, .unset, .unset, .unset, .unset, .unset, .unset, .unset] [(.int (((p2.toUInt32 >>> ((8 : Int32) &&& 31).toUInt32).toInt32) &&& (255 : Int32))), (.int (1 : Int32)), (.ref b86), (.ref b86)])) _
      refine XS.i2c X89.here hx rfl (hb hby at_70) rfl ?_
      show Steps p.tables e below (T89.setTop (mkF m 71 #[.val (.int p1), .val (.int p2), .val (.int p3), .val (.int p4), .val (.int p5), .val (.int (1 : Int32)), .val (.int v77), .val (.int v79), .val (.ref b80), .unset, .unset, .unset, .unset, .unset, .unset, .unset, .unset, .unset] [(.int ((((p2.toUInt32 >>> ((8 : Int32) &&& 31).toUInt32).toInt32) &&& (255 : Int32)).toUInt32.toUInt16.toUInt32.toInt32)), (.int (1 : Int32)), (.ref b86), (.ref b86)])) _
      refine st92 _ ?_
      show Steps p.tables e below (T92.setTop (mkF m 72 #[.val (.int p1), .val (.int p2), .val (.int p3), .val (.int p4), .val (.int p5), .val (.int (1 : Int32)), .val (.int v77), .val (.int v79), .val (.ref b80), .unset, .unset, .unset, .unset, .unset, .unset, .unset, .unset, .unset] [(.ref b86)])) _
      refine XS.astore X92.here hx rfl (hb hby at_72) rfl rfl (l' := #[.val (.int p1), .val (.int p2), .val (.int p3), .val (.int p4), .val (.int p5), .val (.int (1 : Int32)), .val (.int v77), .val (.int v79), .val (.ref b80), .val (.ref b86), .unset, .unset, .unset, .unset, .unset, .unset, .unset, .unset]) rfl ?_
      show Steps p.tables e below (T92.setTop (mkF m 74 #[.val (.int p1), .val (.int p2), .val (.int p3), .val (.int p4), .val (.int p5), .val (.int (1 : Int32)), .val (.int v77), .val (.int v79), .val (.ref b80), .val (.ref b86), .unset, .unset, .unset, .unset, .unset, .unset, .unset, .unset] [])) _
      refine XS.iloadN X92.here hx rfl (hb hby at_74) rfl ?_
      show Steps p.tables e below (T92.setTop (mkF m 75 #[.val (.int p1), .val (.int p2), .val (.int p3), .val (.int p4), .val (.int p5), .val (.int (1 : Int32)), .val (.int v77), .val (.int v79), .val (.ref b80), .val (.ref b86), .unset, .unset, .unset, .unset, .unset, .unset, .unset, .unset] [(.int p3)])) _
      refine st93 _ ?_
      show Steps p.tables e below (T93.setTop (mkF m 78 #[.val (.int p1), .val (.int p2), .val (.int p3), .val (.int p4), .val (.int p5), .val (.int (1 : Int32)), .val (.int v77), .val (.int v79), .val (.ref b80), .val (.ref b86), .unset, .unset, .unset, .unset, .unset, .unset, .unset, .unset] [(.ref r93)])) _
      refine XS.astore X93.here hx rfl (hb hby at_78) rfl rfl (l' := #[.val (.int p1), .val (.int p2), .val (.int p3), .val (.int p4), .val (.int p5), .val (.int (1 : Int32)), .val (.int v77), .val (.int v79), .val (.ref b80), .val (.ref b86), .val (.ref r93), .unset, .unset, .unset, .unset, .unset, .unset, .unset]) rfl ?_
      show Steps p.tables e below (T93.setTop (mkF m 80 #[.val (.int p1), .val (.int p2), .val (.int p3), .val (.int p4), .val (.int p5), .val (.int (1 : Int32)), .val (.int v77), .val (.int v79), .val (.ref b80), .val (.ref b86), .val (.ref r93), .unset, .unset, .unset, .unset, .unset, .unset, .unset] [])) _
      refine XS.iloadN X93.here hx rfl (hb hby at_80) rfl ?_
      show Steps p.tables e below (T93.setTop (mkF m 81 #[.val (.int p1), .val (.int p2), .val (.int p3), .val (.int p4), .val (.int p5), .val (.int (1 : Int32)), .val (.int v77), .val (.int v79), .val (.ref b80), .val (.ref b86), .val (.ref r93), .unset, .unset, .unset, .unset, .unset, .unset, .unset] [(.int p4)])) _
      refine st94 _ ?_
      show Steps p.tables e below (T94.setTop (mkF m 84 #[.val (.int p1), .val (.int p2), .val (.int p3), .val (.int p4), .val (.int p5), .val (.int (1 : Int32)), .val (.int v77), .val (.int v79), .val (.ref b80), .val (.ref b86), .val (.ref r93), .unset, .unset, .unset, .unset, .unset, .unset, .unset] [(.ref r94)])) _
      refine XS.astore X94.here hx rfl (hb hby at_84) rfl rfl (l' := #[.val (.int p1), .val (.int p2), .val (.int p3), .val (.int p4), .val (.int p5), .val (.int (1 : Int32)), .val (.int v77), .val (.int v79), .val (.ref b80), .val (.ref b86), .val (.ref r93), .val (.ref r94), .unset, .unset, .unset, .unset, .unset, .unset]) rfl ?_
      show Steps p.tables e below (T94.setTop (mkF m 86 #[.val (.int p1), .val (.int p2), .val (.int p3), .val (.int p4), .val (.int p5), .val (.int (1 : Int32)), .val (.int v77), .val (.int v79), .val (.ref b80), .val (.ref b86), .val (.ref r93), .val (.ref r94), .unset, .unset, .unset, .unset, .unset, .unset] [])) _
      refine st95 _ ?_
      show Steps p.tables e below (T95.setTop (mkF m 89 #[.val (.int p1), .val (.int p2), .val (.int p3), .val (.int p4), .val (.int p5), .val (.int (1 : Int32)), .val (.int v77), .val (.int v79), .val (.ref b80), .val (.ref b86), .val (.ref r93), .val (.ref r94), .unset, .unset, .unset, .unset, .unset, .unset] [(.ref b95)])) _
      refine XS.dup X95.here hx rfl (hb hby at_89) rfl rfl ?_
      show Steps p.tables e below (T95.setTop (mkF m 90 #[.val (.int p1), .val (.int p2), .val (.int p3), .val (.int p4), .val (.int p5), .val (.int (1 : Int32)), .val (.int v77), .val (.int v79), .val (.ref b80), .val (.ref b86), .val (.ref r93), .val (.ref r94), .unset, .unset, .unset, .unset, .unset, .unset] [(.ref b95), (.ref b95)])) _
      refine XS.iload X95.here hx rfl (hb hby at_90) rfl ?_
      show Steps p.tables e below (T95.setTop (mkF m 92 #[.val (.int p1), .val (.int p2), .val (.int p3), .val (.int p4), .val (.int p5), .val (.int (1 : Int32)), .val (.int v77), .val (.int v79), .val (.ref b80), .val (.ref b86), .val (.ref r93), .val (.ref r94), .unset, .unset, .unset, .unset, .unset, .unset] [(.int (1 : Int32)), (.ref b95), (.ref b95)])) _
      refine XS.ifNo X95.here hx rfl (hb hby at_92) rfl ((if0 _ _).trans (feq hc100_92).1) ?_
      show Steps p.tables e below (T95.setTop (mkF m 95 #[.val (.int p1), .val (.int p2), .val (.int p3), .val (.int p4), .val (.int p5), .val (.int (1 : Int32)), .val (.int v77), .val (.int v79), .val (.ref b80), .val (.ref b86), .val (.ref r93), .val (.ref r94), .unset, .unset, .unset, .unset, .unset, .unset] [(.ref b95), (.ref b95)])) _
      refine XS.aload X95.here hx rfl (hb hby at_95) rfl rfl ?_
      show Steps p.tables e below (T95.setTop (mkF m 97 #[.val (.int p1), .val (.int p2), .val (.int p3), .val (.int p4), .val (.int p5), .val (.int (1 : Int32)), .val (.int v77), .val (.int v79), .val (.ref b80), .val (.ref b86), .val (.ref r93), .val (.ref r94), .unset, .unset, .unset, .unset, .unset, .unset] [(.ref r93), (.ref b95), (.ref b95)])) _
      refine XS.goto X95.here hx rfl (pc0 := 97) (pc' := 101) rfl (hb hby at_97) (by decide) (by decide) ?_
      exact ktx
    obtain ⟨_, _, ⟨T102, L102, k102, n102⟩, -, X102, ⟨Lc102, hQ102, l102, y102, z102⟩, st102⟩ := X95.specialBack hx (y := (⟨"io/subjectwire/auth/Credentials", "<init>", "(Ljava/lang/String;[C)V"⟩ : MethodName)) rfl hown (mvT hZ (hw _ (List.mem_of_getElem? (i := 37) rfl))) (mvT hZ (hw _ (List.mem_of_getElem? (i := 38) rfl))) (mvT hZ (hw _ (List.mem_of_getElem? (i := 39) rfl))) (by decide) (backOf (W := 1) (rm8r l Z a0 hw [] b95 r93 b80  h95 n0 Z95 A95 g_b95 F95_jwt F95_seed) hZ (hw _ (List.mem_of_getElem? (i := 39) rfl)) (hw _ (List.mem_of_getElem? (i := 36) rfl)) (by decide) (by decide)) (g := (mkF m 103 #[.val (.int p1), .val (.int p2), .val (.int p3), .val (.int p4), .val (.int p5), .val (.int (1 : Int32)), .val (.int v77), .val (.int v79), .val (.ref b80), .val (.ref b86), .val (.ref r93), .val (.ref r94), .unset, .unset, .unset, .unset, .unset, .unset] [(.ref b80), (.ref r93), (.ref b95), (.ref b95)])) rfl (by rw [hml]; rfl) (Steps.refl _) (a := b95) (argsL := [(.ref r93), (.ref b80)]) (rest := [(.ref b95)]) (lenOf own_pd3 rfl) rfl (by show 2 * 0 + _ ≤ _; exact Nat.le_of_eq rfl) (hb hby at_103) (fun _ _ => ⟨rfl, e95, (by decide : 9 + 0 ≤ _), (by decide : 22 + 0 ≤ _)⟩)
    dsimp only [Pt.U, Pt.locs, Pt.cells, Pt.slots] at X102 l102 y102 z102 st102 hQ102
    subst l102 y102 z102
    obtain ⟨rfl, Nq102, Kq102, Eq102, Fq102_jwt, Fq102_seed⟩ := hQ102
    have N102 := Fr.app N94 Nq102
    have Z102 : n0 ≤ T102.heap.size := Nat.le_trans Z95 Kq102.1
    have O102 := O95.keep Kq102 (allS g_b95 all0)
    obtain ⟨T103, h103, X103, e103, E103, A103, D103, -, st103⟩ := newO X102 hx hZ hown (hw _ (List.mem_of_getElem? (i := 34) rfl)) (hw _ (List.mem_of_getElem? (i := 35) rfl)) (hw _ (List.mem_of_getElem? (i := 36) rfl)) rfl (g := (mkF m 108 #[.val (.int p1), .val (.int p2), .val (.int p3), .val (.int p4), .val (.int p5), .val (.int (1 : Int32)), .val (.int v77), .val (.int v79), .val (.ref b80), .val (.ref b86), .val (.ref r93), .val (.ref r94), .val (.ref b95), .unset, .unset, .unset, .unset, .unset] [])) rfl (hb hby at_108) (by decide) (by decide)
    obtain ⟨b103, g103⟩ : ∃ z, z = T102.heap.size := ⟨_, rfl⟩
    rw [← g103] at A103 D103 st103
    have f105 := ((f97.ext E95).keep Kq102 (ninS ne96 nin0))
    have ne104 : b80 ≠ b103 := Nat.ne_of_lt (Nat.lt_of_lt_of_le f105.lt (Nat.le_of_eq g103.symm))
    have f107 := ((f99.ext E95).keep Kq102 (ninS ne98 nin0))
    have ne106 : b86 ≠ b103 := Nat.ne_of_lt (Nat.lt_of_lt_of_le f107.lt (Nat.le_of_eq g103.symm))
    have ne108 : b95 ≠ b103 := Nat.ne_of_lt (Nat.lt_of_lt_of_le Eq102.lt (Nat.le_of_eq g103.symm))
    have g_b103 : n0 ≤ b103 := Nat.le_trans Z102 (Nat.le_of_eq g103.symm)
    have Z103 : n0 ≤ h103.size := Nat.le_trans Z102 E103.1
    have O103 := O102.ext E103
    have F103_jwt : Fld Z h103 b103 "io/subjectwire/auth/Credentials" "jwt" "Ljava/lang/String;" .null := D103 (Or.inr (hw _ (List.mem_of_getElem? (i := 42) rfl))) (ty := (.object "java/lang/String")) (by decide)
    have F103_seed : Fld Z h103 b103 "io/subjectwire/auth/Credentials" "seed" "[C" .null := D103 (Or.inr (hw _ (List.mem_of_getElem? (i := 44) rfl))) (ty := (.array .char)) (by decide)
    have hc109_114 : ¬ ((1 : Int32) = (0 : Int32)) := (by decide)
    obtain ⟨_, _, ⟨T110, L110, k110, n110⟩, -, X110, ⟨Lc110, hQ110, l110, y110, z110⟩, st110⟩ := X103.specialBack hx (y := (⟨"io/subjectwire/auth/Credentials", "<init>", "(Ljava/lang/String;[C)V"⟩ : MethodName)) rfl hown (mvT hZ (hw _ (List.mem_of_getElem? (i := 37) rfl))) (mvT hZ (hw _ (List.mem_of_getElem? (i := 38) rfl))) (mvT hZ (hw _ (List.mem_of_getElem? (i := 39) rfl))) (by decide) (backOf (W := 1) (rm8r l Z a0 hw [] b103 r94 b86  h103 n0 Z103 A103 g_b103 F103_jwt F103_seed) hZ (hw _ (List.mem_of_getElem? (i := 39) rfl)) (hw _ (List.mem_of_getElem? (i := 36) rfl)) (by decide) (by decide)) (g := (mkF m 125 #[.val (.int p1), .val (.int p2), .val (.int p3), .val (.int p4), .val (.int p5), .val (.int (1 : Int32)), .val (.int v77), .val (.int v79), .val (.ref b80), .val (.ref b86), .val (.ref r93), .val (.ref r94), .val (.ref b95), .unset, .unset, .unset, .unset, .unset] [(.ref b86), (.ref r94), (.ref b103), (.ref b103)])) rfl (by rw [hml]; rfl) (Steps.refl _) (a := b103) (argsL := [(.ref r94), (.ref b86)]) (rest := [(.ref b103)]) (lenOf own_pd3 rfl) rfl (by show 2 * 0 + _ ≤ _; exact Nat.le_of_eq rfl) (hb hby at_125) (fun _ _ => ⟨rfl, e103, (by decide : 10 + 0 ≤ _), (by decide : 24 + 0 ≤ _)⟩)
    dsimp only [Pt.U, Pt.locs, Pt.cells, Pt.slots] at X110 l110 y110 z110 st110 hQ110
    subst l110 y110 z110
    obtain ⟨rfl, Nq110, Kq110, Eq110, Fq110_jwt, Fq110_seed⟩ := hQ110
    have N110 := Fr.app N102 Nq110
    have Z110 : n0 ≤ T110.heap.size := Nat.le_trans Z103 Kq110.1
    have O110 := O103.keep Kq110 (allS g_b103 all0)
    obtain ⟨T111, h111, X111, e111, E111, A111, D111, -, st111⟩ := newO X110 hx hZ hown (hw _ (List.mem_of_getElem? (i := 34) rfl)) (hw _ (List.mem_of_getElem? (i := 35) rfl)) (hw _ (List.mem_of_getElem? (i := 36) rfl)) rfl (g := (mkF m 130 #[.val (.int p1), .val (.int p2), .val (.int p3), .val (.int p4), .val (.int p5), .val (.int (1 : Int32)), .val (.int v77), .val (.int v79), .val (.ref b80), .val (.ref b86), .val (.ref r93), .val (.ref r94), .val (.ref b95), .val (.ref b103), .unset, .unset, .unset, .unset] [])) rfl (hb hby at_130) (by decide) (by decide)
    obtain ⟨b111, g111⟩ : ∃ z, z = T110.heap.size := ⟨_, rfl⟩
    rw [← g111] at A111 D111 st111
    have f113 := ((f105.ext E103).keep Kq110 (ninS ne104 nin0))
    have ne112 : b80 ≠ b111 := Nat.ne_of_lt (Nat.lt_of_lt_of_le f113.lt (Nat.le_of_eq g111.symm))
    have f115 := ((f107.ext E103).keep Kq110 (ninS ne106 nin0))
    have ne114 : b86 ≠ b111 := Nat.ne_of_lt (Nat.lt_of_lt_of_le f115.lt (Nat.le_of_eq g111.symm))
    have f117 := ((Eq102.ext E103).keep Kq110)
    have ne116 : b95 ≠ b111 := Nat.ne_of_lt (Nat.lt_of_lt_of_le f117.lt (Nat.le_of_eq g111.symm))
    have ne118 : b103 ≠ b111 := Nat.ne_of_lt (Nat.lt_of_lt_of_le Eq110.lt (Nat.le_of_eq g111.symm))
    have g_b111 : n0 ≤ b111 := Nat.le_trans Z110 (Nat.le_of_eq g111.symm)
    have Z111 : n0 ≤ h111.size := Nat.le_trans Z110 E111.1
    have O111 := O110.ext E111
    have F111_jwt : Fld Z h111 b111 "io/subjectwire/auth/Credentials" "jwt" "Ljava/lang/String;" .null := D111 (Or.inr (hw _ (List.mem_of_getElem? (i := 42) rfl))) (ty := (.object "java/lang/String")) (by decide)
    have F111_seed : Fld Z h111 b111 "io/subjectwire/auth/Credentials" "seed" "[C" .null := D111 (Or.inr (hw _ (List.mem_of_getElem? (i := 44) rfl))) (ty := (.array .char)) (by decide)
    have go119 : own_go p e below (s₁.setTop (entryFrame m #[(.int p1), (.int p2), (.int p3), (.int p4), (.int p5)] maxLocals)) (T111.setTop (mkF m 136 #[.val (.int p1), .val (.int p2), .val (.int p3), .val (.int p4), .val (.int p5), .val (.int (1 : Int32)), .val (.int v77), .val (.int v79), .val (.ref b80), .val (.ref b86), .val (.ref r93), .val (.ref r94), .val (.ref b95), .val (.ref b103), .unset, .unset, .unset, .unset] [(.int (1 : Int32)), (.ref b111), (.ref b111)])) := by
      intro ttx ktx
      refine go101 ttx ?_
      show Steps p.tables e below (T95.setTop (mkF m 101 #[.val (.int p1), .val (.int p2), .val (.int p3), .val (.int p4), .val (.int p5), .val (.int (1 : Int32)), .val (.int v77), .val (.int v79), .val (.ref b80), .val (.ref b86), .val (.ref r93), .val (.ref r94), .unset, .unset, .unset, .unset, .unset, .unset] [(.ref r93), (.ref b95), (.ref b95)])) _
      refine XS.aload X95.here hx rfl (hb hby at_101) rfl rfl ?_
      show Steps p.tables e below (T95.setTop (mkF m 103 #[.val (.int p1), .val (.int p2), .val (.int p3), .val (.int p4), .val (.int p5), .val (.int (1 : Int32)), .val (.int v77), .val (.int v79), .val (.ref b80), .val (.ref b86), .val (.ref r93), .val (.ref r94), .unset, .unset, .unset, .unset, .unset, .unset] [(.ref b80), (.ref r93), (.ref b95), (.ref b95)])) _
      refine st102.trans ?_
      show Steps p.tables e below (T102.setTop (mkF m 106 #[.val (.int p1), .val (.int p2), .val (.int p3), .val (.int p4), .val (.int p5), .val (.int (1 : Int32)), .val (.int v77), .val (.int v79), .val (.ref b80), .val (.ref b86), .val (.ref r93), .val (.ref r94), .unset, .unset, .unset, .unset, .unset, .unset] [(.ref b95)])) _
      refine XS.astore X102.here hx rfl (hb hby at_106) rfl rfl (l' := #[.val (.int p1), .val (.int p2), .val (.int p3), .val (.int p4), .val (.int p5), .val (.int (1 : Int32)), .val (.int v77), .val (.int v79), .val (.ref b80), .val (.ref b86), .val (.ref r93), .val (.ref r94), .val (.ref b95), .unset, .unset, .unset, .unset, .unset]) rfl ?_
      show Steps p.tables e below (T102.setTop (mkF m 108 #[.val (.int p1), .val (.int p2), .val (.int p3), .val (.int p4), .val (.int p5), .val (.int (1 : Int32)), .val (.int v77), .val (.int v79), .val (.ref b80), .val (.ref b86), .val (.ref r93), .val (.ref r94), .val (.ref b95), .unset, .unset, .unset, .unset, .unset] [])) _
      refine st103 _ ?_
      show Steps p.tables e below (T103.setTop (mkF m 111 #[.val (.int p1), .val (.int p2), .val (.int p3), .val (.int p4), .val (.int p5), .val (.int (1 : Int32)), .val (.int v77), .val (.int v79), .val (.ref b80), .val (.ref b86), .val (.ref r93), .val (.ref r94), .val (.ref b95), .unset, .unset, .unset, .unset, .unset] [(.ref b103)])) _
      refine XS.dup X103.here hx rfl (hb hby at_111) rfl rfl ?_
      show Steps p.tables e below (T103.setTop (mkF m 112 #[.val (.int p1), .val (.int p2), .val (.int p3), .val (.int p4), .val (.int p5), .val (.int (1 : Int32)), .val (.int v77), .val (.int v79), .val (.ref b80), .val (.ref b86), .val (.ref r93), .val (.ref r94), .val (.ref b95), .unset, .unset, .unset, .unset, .unset] [(.ref b103), (.ref b103)])) _
      refine XS.iload X103.here hx rfl (hb hby at_112) rfl ?_
      show Steps p.tables e below (T103.setTop (mkF m 114 #[.val (.int p1), .val (.int p2), .val (.int p3), .val (.int p4), .val (.int p5), .val (.int (1 : Int32)), .val (.int v77), .val (.int v79), .val (.ref b80), .val (.ref b86), .val (.ref r93), .val (.ref r94), .val (.ref b95), .unset, .unset, .unset, .unset, .unset] [(.int (1 : Int32)), (.ref b103), (.ref b103)])) _
      refine XS.ifNo X103.here hx rfl (hb hby at_114) rfl ((if0 _ _).trans (feq hc109_114).1) ?_
      show Steps p.tables e below (T103.setTop (mkF m 117 #[.val (.int p1), .val (.int p2), .val (.int p3), .val (.int p4), .val (.int p5), .val (.int (1 : Int32)), .val (.int v77), .val (.int v79), .val (.ref b80), .val (.ref b86), .val (.ref r93), .val (.ref r94), .val (.ref b95), .unset, .unset, .unset, .unset, .unset] [(.ref b103), (.ref b103)])) _
      refine XS.aload X103.here hx rfl (hb hby at_117) rfl rfl ?_
      show Steps p.tables e below (T103.setTop (mkF m 119 #[.val (.int p1), .val (.int p2), .val (.int p3), .val (.int p4), .val (.int p5), .val (.int (1 : Int32)), .val (.int v77), .val (.int v79), .val (.ref b80), .val (.ref b86), .val (.ref r93), .val (.ref r94), .val (.ref b95), .unset, .unset, .unset, .unset, .unset] [(.ref r94), (.ref b103), (.ref b103)])) _
      refine XS.goto X103.here hx rfl (pc0 := 119) (pc' := 123) rfl (hb hby at_119) (by decide) (by decide) ?_
      show Steps p.tables e below (T103.setTop (mkF m 123 #[.val (.int p1), .val (.int p2), .val (.int p3), .val (.int p4), .val (.int p5), .val (.int (1 : Int32)), .val (.int v77), .val (.int v79), .val (.ref b80), .val (.ref b86), .val (.ref r93), .val (.ref r94), .val (.ref b95), .unset, .unset, .unset, .unset, .unset] [(.ref r94), (.ref b103), (.ref b103)])) _
      refine XS.aload X103.here hx rfl (hb hby at_123) rfl rfl ?_
      show Steps p.tables e below (T103.setTop (mkF m 125 #[.val (.int p1), .val (.int p2), .val (.int p3), .val (.int p4), .val (.int p5), .val (.int (1 : Int32)), .val (.int v77), .val (.int v79), .val (.ref b80), .val (.ref b86), .val (.ref r93), .val (.ref r94), .val (.ref b95), .unset, .unset, .unset, .unset, .unset] [(.ref b86), (.ref r94), (.ref b103), (.ref b103)])) _
      refine st110.trans ?_
      show Steps p.tables e below (T110.setTop (mkF m 128 #[.val (.int p1), .val (.int p2), .val (.int p3), .val (.int p4), .val (.int p5), .val (.int (1 : Int32)), .val (.int v77), .val (.int v79), .val (.ref b80), .val (.ref b86), .val (.ref r93), .val (.ref r94), .val (.ref b95), .unset, .unset, .unset, .unset, .unset] [(.ref b103)])) _
      refine XS.astore X110.here hx rfl (hb hby at_128) rfl rfl (l' := #[.val (.int p1), .val (.int p2), .val (.int p3), .val (.int p4), .val (.int p5), .val (.int (1 : Int32)), .val (.int v77), .val (.int v79), .val (.ref b80), .val (.ref b86), .val (.ref r93), .val (.ref r94), .val (.ref b95), .val (.ref b103), .unset, .unset, .unset, .unset]) rfl ?_
      show Steps p.tables e below (T110.setTop (mkF m 130 #[.val (.int p1), .val (.int p2), .val (.int p3), .val (.int p4), .val (.int p5), .val (.int (1 : Int32)), .val (.int v77), .val (.int v79), .val (.ref b80), .val (.ref b86), .val (.ref r93), .val (.ref r94), .val (.ref b95), .val (.ref b103), .unset, .unset, .unset, .unset] [])) _
      refine st111 _ ?_
      show Steps p.tables e below (T111.setTop (mkF m 133 #[.val (.int p1), .val (.int p2), .val (.int p3), .val (.int p4), .val (.int p5), .val (.int (1 : Int32)), .val (.int v77), .val (.int v79), .val (.ref b80), .val (.ref b86), .val (.ref r93), .val (.ref r94), .val (.ref b95), .val (.ref b103), .unset, .unset, .unset, .unset] [(.ref b111)])) _
      refine XS.dup X111.here hx rfl (hb hby at_133) rfl rfl ?_
      show Steps p.tables e below (T111.setTop (mkF m 134 #[.val (.int p1), .val (.int p2), .val (.int p3), .val (.int p4), .val (.int p5), .val (.int (1 : Int32)), .val (.int v77), .val (.int v79), .val (.ref b80), .val (.ref b86), .val (.ref r93), .val (.ref r94), .val (.ref b95), .val (.ref b103), .unset, .unset, .unset, .unset] [(.ref b111), (.ref b111)])) _
      refine XS.iload X111.here hx rfl (hb hby at_134) rfl ?_
      exact ktx
    have hc120_136 : ¬ ((1 : Int32) = (0 : Int32)) := (by decide)
    obtain ⟨_, _, ⟨T121, L121, k121, n121⟩, -, X121, ⟨Lc121, hQ121, l121, y121, z121⟩, st121⟩ := X111.specialBack hx (y := (⟨"io/subjectwire/auth/Credentials", "<init>", "(Ljava/lang/String;[C)V"⟩ : MethodName)) rfl hown (mvT hZ (hw _ (List.mem_of_getElem? (i := 37) rfl))) (mvT hZ (hw _ (List.mem_of_getElem? (i := 38) rfl))) (mvT hZ (hw _ (List.mem_of_getElem? (i := 39) rfl))) (by decide) (backOf (W := 1) (rm8n l Z a0 hw [] b111 b80  h111 n0 Z111 A111 g_b111 F111_jwt F111_seed) hZ (hw _ (List.mem_of_getElem? (i := 39) rfl)) (hw _ (List.mem_of_getElem? (i := 36) rfl)) (by decide) (by decide)) (g := (mkF m 147 #[.val (.int p1), .val (.int p2), .val (.int p3), .val (.int p4), .val (.int p5), .val (.int (1 : Int32)), .val (.int v77), .val (.int v79), .val (.ref b80), .val (.ref b86), .val (.ref r93), .val (.ref r94), .val (.ref b95), .val (.ref b103), .unset, .unset, .unset, .unset] [(.ref b80), .null, (.ref b111), (.ref b111)])) rfl (by rw [hml]; rfl) (Steps.refl _) (a := b111) (argsL := [.null, (.ref b80)]) (rest := [(.ref b111)]) (lenOf own_pd3 rfl) rfl (by show 2 * 0 + _ ≤ _; exact Nat.le_of_eq rfl) (hb hby at_147) (fun _ _ => ⟨rfl, e111, (by decide : 11 + 0 ≤ _), (by decide : 26 + 0 ≤ _)⟩)
    dsimp only [Pt.U, Pt.locs, Pt.cells, Pt.slots] at X121 l121 y121 z121 st121 hQ121
    subst l121 y121 z121
    obtain ⟨rfl, Nq121, Kq121, Eq121, Fq121_jwt, Fq121_seed⟩ := hQ121
    have N121 := Fr.app N110 Nq121
    have Z121 : n0 ≤ T121.heap.size := Nat.le_trans Z111 Kq121.1
    have O121 := O111.keep Kq121 (allS g_b111 all0)
    have f123 := ((((Fq102_jwt.ext E103).keep Kq110 (ninS ne108 nin0)).ext E111).keep Kq121 (ninS ne116 nin0))
    have f124 := ((f117.ext E111).keep Kq121)
    obtain ⟨cq122, kq122, q122a, q122b, q122c⟩ := isOf hZ rfl f124
    have eB122 : T121.heap = T121.heap := rfl
    obtain ⟨_, _, ⟨T122, L122, k122, n122⟩, -, X122, hS122, hg122, ⟨Lc122, hQ122, l122, y122, z122⟩, st122⟩ := X121.virtualBackS hx (y := (⟨"io/subjectwire/auth/Credentials", "toString", "()Ljava/lang/String;"⟩ : MethodName)) (z := (⟨"io/subjectwire/auth/Credentials", "toString", "()Ljava/lang/String;"⟩ : MethodName)) hown (mvT hZ (hw _ (List.mem_of_getElem? (i := 45) rfl))) (mvT hZ (hw _ (List.mem_of_getElem? (i := 46) rfl))) (notFace_of_selects (args := #[]) (mvT hZ (hw _ (List.mem_of_getElem? (i := 48) rfl)))) (mvT hZ (hw _ (List.mem_of_getElem? (i := 48) rfl))) (mvT hZ (hw _ (List.mem_of_getElem? (i := 47) rfl))) (by decide) (own_backS (W := 0) (J := fun vm => IB Z vm []) (rm9f88 l Z a0 hw [] b95 r93 [] T121.heap n0 Z121 f123 O121 (by decide) HC88 HCW) hZ (hw _ (List.mem_of_getElem? (i := 49) rfl)) (hw _ (List.mem_of_getElem? (i := 36) rfl)) (by decide) (by decide) (own_ib hJ)) q122a q122c (g := (mkF m 154 #[.val (.int p1), .val (.int p2), .val (.int p3), .val (.int p4), .val (.int p5), .val (.int (1 : Int32)), .val (.int v77), .val (.int v79), .val (.ref b80), .val (.ref b86), .val (.ref r93), .val (.ref r94), .val (.ref b95), .val (.ref b103), .val (.ref b111), .unset, .unset, .unset] [(.ref b95)])) rfl (by rw [hml]; rfl) (Steps.refl _) (argsL := []) (rest := []) (lenOf own_pd4 rfl) rfl (by show 2 * 0 + _ ≤ _; exact Nat.le_of_eq rfl) (hb hby at_154) (fun _ _ => ⟨rfl, rfl, (by decide : 11 + 2 ≤ _), (by decide : 26 + 132 ≤ _)⟩)
    dsimp only [Pt.U, Pt.locs, Pt.cells, Pt.slots] at X122 l122 y122 z122 st122 hQ122 hS122 hg122
    subst l122 y122 z122
    obtain ⟨r122, b122, kb122, vs122, rfl, Nq122, Eq122, Aq122, Cq122, Vq122, Rq122, Iq122, Lq122⟩ := hQ122
    have N122 := Fr.app N121 Nq122
    have hF122 : s.Since T122.vm T122.heap.size := hS122
    replace X122 : Stand p l e room_1 (s.setVm T122.vm) m #[(.int p1), (.int p2), (.int p3), (.int p4), (.int p5)] below meth c T122 _ _ _ := X122
    have hZ : Z.Warmed39 (s.setVm T122.vm).vm := State.Warmed39.trans (t := s) hZs hF122.1
    have hown : (s.setVm T122.vm).vm.findClass "io/subjectwire/auth/CredentialsToStringPinLaw" = some m.cls := by rw [show (s.setVm T122.vm).vm = T122.vm from rfl, hF122.1.alike.findClass]; exact howns
    have Z122 : n0 ≤ T122.heap.size := Nat.le_trans Z121 Eq122.1
    have O122 := O121.ext Eq122
    have f126 := (((Fq110_jwt.ext E111).keep Kq121 (ninS ne118 nin0)).ext Eq122)
    have f127 := (((Eq110.ext E111).keep Kq121).ext Eq122)
    obtain ⟨cq125, kq125, q125a, q125b, q125c⟩ := isOf hZ rfl f127
    obtain ⟨_, _, ⟨T125, L125, k125, n125⟩, -, X125, ⟨Lc125, hQ125, l125, y125, z125⟩, st125⟩ := X122.virtualBack hx (y := (⟨"io/subjectwire/auth/Credentials", "toString", "()Ljava/lang/String;"⟩ : MethodName)) (z := (⟨"io/subjectwire/auth/Credentials", "toString", "()Ljava/lang/String;"⟩ : MethodName)) hown (mvT hZ (hw _ (List.mem_of_getElem? (i := 45) rfl))) (mvT hZ (hw _ (List.mem_of_getElem? (i := 46) rfl))) (notFace_of_selects (args := #[]) (mvT hZ (hw _ (List.mem_of_getElem? (i := 48) rfl)))) (mvT hZ (hw _ (List.mem_of_getElem? (i := 48) rfl))) (mvT hZ (hw _ (List.mem_of_getElem? (i := 47) rfl))) (by decide) (own_backL (W := 0) (J := fun vm => Lit (Z.setVm vm) "io/subjectwire/auth/Credentials" 88 r122) (rm9a88 l Z a0 hw [] b103 r94 r122 T122.heap n0 Z122 f126) hZ (hw _ (List.mem_of_getElem? (i := 49) rfl)) (hw _ (List.mem_of_getElem? (i := 36) rfl)) (by decide) (by decide) (own_lit Lq122)) q125a q125c (g := (mkF m 161 #[.val (.int p1), .val (.int p2), .val (.int p3), .val (.int p4), .val (.int p5), .val (.int (1 : Int32)), .val (.int v77), .val (.int v79), .val (.ref b80), .val (.ref b86), .val (.ref r93), .val (.ref r94), .val (.ref b95), .val (.ref b103), .val (.ref b111), .val (.ref r122), .unset, .unset] [(.ref b103)])) rfl (by rw [hml]; rfl) (Steps.refl _) (argsL := []) (rest := []) (lenOf own_pd4 rfl) rfl (by show 2 * 0 + _ ≤ _; exact Nat.le_of_eq rfl) (hb hby at_161) (fun _ _ => ⟨rfl, rfl, (by decide : 13 + 0 ≤ _), (by decide : 158 + 0 ≤ _)⟩)
    dsimp only [Pt.U, Pt.locs, Pt.cells, Pt.slots] at X125 l125 y125 z125 st125 hQ125
    subst l125 y125 z125
    obtain ⟨rfl, Nq125, e125⟩ := hQ125
    have N125 := Fr.app N122 Nq125
    have f129 := (Fq121_jwt.ext Eq122)
    have f130 := (Eq121.ext Eq122)
    obtain ⟨cq128, kq128, q128a, q128b, q128c⟩ := isOf hZ e125 f130
    have eB128 : T125.heap = T122.heap := e125
    obtain ⟨_, _, ⟨T128, L128, k128, n128⟩, -, X128, hS128, hg128, ⟨Lc128, hQ128, l128, y128, z128⟩, st128⟩ := X125.virtualBackS hx (y := (⟨"io/subjectwire/auth/Credentials", "toString", "()Ljava/lang/String;"⟩ : MethodName)) (z := (⟨"io/subjectwire/auth/Credentials", "toString", "()Ljava/lang/String;"⟩ : MethodName)) hown (mvT hZ (hw _ (List.mem_of_getElem? (i := 45) rfl))) (mvT hZ (hw _ (List.mem_of_getElem? (i := 46) rfl))) (notFace_of_selects (args := #[]) (mvT hZ (hw _ (List.mem_of_getElem? (i := 48) rfl)))) (mvT hZ (hw _ (List.mem_of_getElem? (i := 48) rfl))) (mvT hZ (hw _ (List.mem_of_getElem? (i := 47) rfl))) (by decide) (own_backS (W := 0) (J := fun vm => IB Z vm ("Credentials[user JWT, nkey seed]" :: [])) (rm9f86 l Z a0 hw [] b111 ("Credentials[user JWT, nkey seed]" :: []) T122.heap n0 Z122 f129 O122 (by decide) HC86 HCW) hZ (hw _ (List.mem_of_getElem? (i := 49) rfl)) (hw _ (List.mem_of_getElem? (i := 36) rfl)) (by decide) (by decide) (own_ib Iq122)) q128a q128c (g := (mkF m 168 #[.val (.int p1), .val (.int p2), .val (.int p3), .val (.int p4), .val (.int p5), .val (.int (1 : Int32)), .val (.int v77), .val (.int v79), .val (.ref b80), .val (.ref b86), .val (.ref r93), .val (.ref r94), .val (.ref b95), .val (.ref b103), .val (.ref b111), .val (.ref r122), .val (.ref r122), .unset] [(.ref b111)])) rfl (by rw [hml]; rfl) (Steps.refl _) (argsL := []) (rest := []) (lenOf own_pd4 rfl) rfl (by show 2 * 0 + _ ≤ _; exact Nat.le_of_eq rfl) (hb hby at_168) (fun _ _ => ⟨rfl, e125, (by decide : 13 + 2 ≤ _), (by decide : 158 + 92 ≤ _)⟩)
    dsimp only [Pt.U, Pt.locs, Pt.cells, Pt.slots] at X128 l128 y128 z128 st128 hQ128 hS128 hg128
    subst l128 y128 z128
    obtain ⟨r128, b128, kb128, vs128, rfl, Nq128, Eq128, Aq128, Cq128, Vq128, Rq128, Iq128, Lq128⟩ := hQ128
    have N128 := Fr.app N125 Nq128
    have hF128 : s.Since T128.vm T128.heap.size := foldS (T := T125) hF122 (by rw [eB128]; exact Nat.le_refl _) hS128 hg128
    replace X128 : Stand p l e room_1 (s.setVm T128.vm) m #[(.int p1), (.int p2), (.int p3), (.int p4), (.int p5)] below meth c T128 _ _ _ := X128
    have hZ : Z.Warmed39 (s.setVm T128.vm).vm := State.Warmed39.trans (t := s) hZs hF128.1
    have hown : (s.setVm T128.vm).vm.findClass "io/subjectwire/auth/CredentialsToStringPinLaw" = some m.cls := by rw [show (s.setVm T128.vm).vm = T128.vm from rfl, hF128.1.alike.findClass]; exact howns
    have Z128 : n0 ≤ T128.heap.size := Nat.le_trans Z122 Eq128.1
    have O128 := O122.ext Eq128
    have go131 : own_go p e below (s₁.setTop (entryFrame m #[(.int p1), (.int p2), (.int p3), (.int p4), (.int p5)] maxLocals)) (T128.setTop (mkF m 173 #[.val (.int p1), .val (.int p2), .val (.int p3), .val (.int p4), .val (.int p5), .val (.int (1 : Int32)), .val (.int v77), .val (.int v79), .val (.ref b80), .val (.ref b86), .val (.ref r93), .val (.ref r94), .val (.ref b95), .val (.ref b103), .val (.ref b111), .val (.ref r122), .val (.ref r122), .val (.ref r128)] [])) := by
      intro ttx ktx
      refine go119 ttx ?_
      show Steps p.tables e below (T111.setTop (mkF m 136 #[.val (.int p1), .val (.int p2), .val (.int p3), .val (.int p4), .val (.int p5), .val (.int (1 : Int32)), .val (.int v77), .val (.int v79), .val (.ref b80), .val (.ref b86), .val (.ref r93), .val (.ref r94), .val (.ref b95), .val (.ref b103), .unset, .unset, .unset, .unset] [(.int (1 : Int32)), (.ref b111), (.ref b111)])) _
      refine XS.ifNo X111.here hx rfl (hb hby at_136) rfl ((if0 _ _).trans (feq hc120_136).1) ?_
      show Steps p.tables e below (T111.setTop (mkF m 139 #[.val (.int p1), .val (.int p2), .val (.int p3), .val (.int p4), .val (.int p5), .val (.int (1 : Int32)), .val (.int v77), .val (.int v79), .val (.ref b80), .val (.ref b86), .val (.ref r93), .val (.ref r94), .val (.ref b95), .val (.ref b103), .unset, .unset, .unset, .unset] [(.ref b111), (.ref b111)])) _
      refine XS.aconstNull X111.here hx rfl (hb hby at_139) ?_
      show Steps p.tables e below (T111.setTop (mkF m 140 #[.val (.int p1), .val (.int p2), .val (.int p3), .val (.int p4), .val (.int p5), .val (.int (1 : Int32)), .val (.int v77), .val (.int v79), .val (.ref b80), .val (.ref b86), .val (.ref r93), .val (.ref r94), .val (.ref b95), .val (.ref b103), .unset, .unset, .unset, .unset] [.null, (.ref b111), (.ref b111)])) _
      refine XS.goto X111.here hx rfl (pc0 := 140) (pc' := 145) rfl (hb hby at_140) (by decide) (by decide) ?_
      show Steps p.tables e below (T111.setTop (mkF m 145 #[.val (.int p1), .val (.int p2), .val (.int p3), .val (.int p4), .val (.int p5), .val (.int (1 : Int32)), .val (.int v77), .val (.int v79), .val (.ref b80), .val (.ref b86), .val (.ref r93), .val (.ref r94), .val (.ref b95), .val (.ref b103), .unset, .unset, .unset, .unset] [.null, (.ref b111), (.ref b111)])) _
      refine XS.aload X111.here hx rfl (hb hby at_145) rfl rfl ?_
      show Steps p.tables e below (T111.setTop (mkF m 147 #[.val (.int p1), .val (.int p2), .val (.int p3), .val (.int p4), .val (.int p5), .val (.int (1 : Int32)), .val (.int v77), .val (.int v79), .val (.ref b80), .val (.ref b86), .val (.ref r93), .val (.ref r94), .val (.ref b95), .val (.ref b103), .unset, .unset, .unset, .unset] [(.ref b80), .null, (.ref b111), (.ref b111)])) _
      refine st121.trans ?_
      show Steps p.tables e below (T121.setTop (mkF m 150 #[.val (.int p1), .val (.int p2), .val (.int p3), .val (.int p4), .val (.int p5), .val (.int (1 : Int32)), .val (.int v77), .val (.int v79), .val (.ref b80), .val (.ref b86), .val (.ref r93), .val (.ref r94), .val (.ref b95), .val (.ref b103), .unset, .unset, .unset, .unset] [(.ref b111)])) _
      refine XS.astore X121.here hx rfl (hb hby at_150) rfl rfl (l' := #[.val (.int p1), .val (.int p2), .val (.int p3), .val (.int p4), .val (.int p5), .val (.int (1 : Int32)), .val (.int v77), .val (.int v79), .val (.ref b80), .val (.ref b86), .val (.ref r93), .val (.ref r94), .val (.ref b95), .val (.ref b103), .val (.ref b111), .unset, .unset, .unset]) rfl ?_
      show Steps p.tables e below (T121.setTop (mkF m 152 #[.val (.int p1), .val (.int p2), .val (.int p3), .val (.int p4), .val (.int p5), .val (.int (1 : Int32)), .val (.int v77), .val (.int v79), .val (.ref b80), .val (.ref b86), .val (.ref r93), .val (.ref r94), .val (.ref b95), .val (.ref b103), .val (.ref b111), .unset, .unset, .unset] [])) _
      refine XS.aload X121.here hx rfl (hb hby at_152) rfl rfl ?_
      show Steps p.tables e below (T121.setTop (mkF m 154 #[.val (.int p1), .val (.int p2), .val (.int p3), .val (.int p4), .val (.int p5), .val (.int (1 : Int32)), .val (.int v77), .val (.int v79), .val (.ref b80), .val (.ref b86), .val (.ref r93), .val (.ref r94), .val (.ref b95), .val (.ref b103), .val (.ref b111), .unset, .unset, .unset] [(.ref b95)])) _
      refine st122.trans ?_
      show Steps p.tables e below (T122.setTop (mkF m 157 #[.val (.int p1), .val (.int p2), .val (.int p3), .val (.int p4), .val (.int p5), .val (.int (1 : Int32)), .val (.int v77), .val (.int v79), .val (.ref b80), .val (.ref b86), .val (.ref r93), .val (.ref r94), .val (.ref b95), .val (.ref b103), .val (.ref b111), .unset, .unset, .unset] [(.ref r122)])) _
      refine XS.astore X122.here hx rfl (hb hby at_157) rfl rfl (l' := #[.val (.int p1), .val (.int p2), .val (.int p3), .val (.int p4), .val (.int p5), .val (.int (1 : Int32)), .val (.int v77), .val (.int v79), .val (.ref b80), .val (.ref b86), .val (.ref r93), .val (.ref r94), .val (.ref b95), .val (.ref b103), .val (.ref b111), .val (.ref r122), .unset, .unset]) rfl ?_
      show Steps p.tables e below (T122.setTop (mkF m 159 #[.val (.int p1), .val (.int p2), .val (.int p3), .val (.int p4), .val (.int p5), .val (.int (1 : Int32)), .val (.int v77), .val (.int v79), .val (.ref b80), .val (.ref b86), .val (.ref r93), .val (.ref r94), .val (.ref b95), .val (.ref b103), .val (.ref b111), .val (.ref r122), .unset, .unset] [])) _
      refine XS.aload X122.here hx rfl (hb hby at_159) rfl rfl ?_
      show Steps p.tables e below (T122.setTop (mkF m 161 #[.val (.int p1), .val (.int p2), .val (.int p3), .val (.int p4), .val (.int p5), .val (.int (1 : Int32)), .val (.int v77), .val (.int v79), .val (.ref b80), .val (.ref b86), .val (.ref r93), .val (.ref r94), .val (.ref b95), .val (.ref b103), .val (.ref b111), .val (.ref r122), .unset, .unset] [(.ref b103)])) _
      refine st125.trans ?_
      show Steps p.tables e below (T125.setTop (mkF m 164 #[.val (.int p1), .val (.int p2), .val (.int p3), .val (.int p4), .val (.int p5), .val (.int (1 : Int32)), .val (.int v77), .val (.int v79), .val (.ref b80), .val (.ref b86), .val (.ref r93), .val (.ref r94), .val (.ref b95), .val (.ref b103), .val (.ref b111), .val (.ref r122), .unset, .unset] [(.ref r122)])) _
      refine XS.astore X125.here hx rfl (hb hby at_164) rfl rfl (l' := #[.val (.int p1), .val (.int p2), .val (.int p3), .val (.int p4), .val (.int p5), .val (.int (1 : Int32)), .val (.int v77), .val (.int v79), .val (.ref b80), .val (.ref b86), .val (.ref r93), .val (.ref r94), .val (.ref b95), .val (.ref b103), .val (.ref b111), .val (.ref r122), .val (.ref r122), .unset]) rfl ?_
      show Steps p.tables e below (T125.setTop (mkF m 166 #[.val (.int p1), .val (.int p2), .val (.int p3), .val (.int p4), .val (.int p5), .val (.int (1 : Int32)), .val (.int v77), .val (.int v79), .val (.ref b80), .val (.ref b86), .val (.ref r93), .val (.ref r94), .val (.ref b95), .val (.ref b103), .val (.ref b111), .val (.ref r122), .val (.ref r122), .unset] [])) _
      refine XS.aload X125.here hx rfl (hb hby at_166) rfl rfl ?_
      show Steps p.tables e below (T125.setTop (mkF m 168 #[.val (.int p1), .val (.int p2), .val (.int p3), .val (.int p4), .val (.int p5), .val (.int (1 : Int32)), .val (.int v77), .val (.int v79), .val (.ref b80), .val (.ref b86), .val (.ref r93), .val (.ref r94), .val (.ref b95), .val (.ref b103), .val (.ref b111), .val (.ref r122), .val (.ref r122), .unset] [(.ref b111)])) _
      refine st128.trans ?_
      show Steps p.tables e below (T128.setTop (mkF m 171 #[.val (.int p1), .val (.int p2), .val (.int p3), .val (.int p4), .val (.int p5), .val (.int (1 : Int32)), .val (.int v77), .val (.int v79), .val (.ref b80), .val (.ref b86), .val (.ref r93), .val (.ref r94), .val (.ref b95), .val (.ref b103), .val (.ref b111), .val (.ref r122), .val (.ref r122), .unset] [(.ref r128)])) _
      refine XS.astore X128.here hx rfl (hb hby at_171) rfl rfl (l' := #[.val (.int p1), .val (.int p2), .val (.int p3), .val (.int p4), .val (.int p5), .val (.int (1 : Int32)), .val (.int v77), .val (.int v79), .val (.ref b80), .val (.ref b86), .val (.ref r93), .val (.ref r94), .val (.ref b95), .val (.ref b103), .val (.ref b111), .val (.ref r122), .val (.ref r122), .val (.ref r128)]) rfl ?_
      exact ktx
    have f133 := (Vq122.ext Eq128)
    have f134 := (Rq122.ext Eq128)
    have f135 := (Aq122.ext Eq128)
    obtain ⟨cq132, kq132, q132a, q132b, q132c⟩ := isOf hZ rfl f135
    obtain ⟨_, _, ⟨T132, L132, k132, n132⟩, -, X132, ⟨Lc132, hQ132, l132, y132, z132⟩, st132⟩ := X128.virtualBack hx (y := (⟨"java/lang/String", "isEmpty", "()Z"⟩ : MethodName)) (z := (⟨"java/lang/String", "isEmpty", "()Z"⟩ : MethodName)) hown (mvT hZ (hw _ (List.mem_of_getElem? (i := 54) rfl))) (mvT hZ (hw _ (List.mem_of_getElem? (i := 55) rfl))) (notFace_of_selects (args := #[]) (mvT hZ (hw _ (List.mem_of_getElem? (i := 57) rfl)))) (mvT hZ (hw _ (List.mem_of_getElem? (i := 57) rfl))) (mvT hZ (hw _ (List.mem_of_getElem? (i := 56) rfl))) (by decide) (backOf (W := 0) (rm10 l Z a0 hw [] r122 b122 kb122 (32 : Int32) _ T128.heap n0 Z128 f133 f134 (by decide)) hZ (hw _ (List.mem_of_getElem? (i := 58) rfl)) (hw _ (List.mem_of_getElem? (i := 7) rfl)) (by decide) (by decide)) q132a q132c (g := (mkF m 192 #[.val (.int p1), .val (.int p2), .val (.int p3), .val (.int p4), .val (.int p5), .val (.int (1 : Int32)), .val (.int v77), .val (.int v79), .val (.ref b80), .val (.ref b86), .val (.ref r93), .val (.ref r94), .val (.ref b95), .val (.ref b103), .val (.ref b111), .val (.ref r122), .val (.ref r122), .val (.ref r128)] [(.ref r122)])) rfl (by rw [hml]; rfl) (Steps.refl _) (argsL := []) (rest := []) (lenOf own_pd5 rfl) rfl (by show 2 * 0 + _ ≤ _; exact Nat.le_of_eq rfl) (hb hby at_192) (fun _ _ => ⟨rfl, rfl, (by decide : 15 + 0 ≤ _), (by decide : 250 + 0 ≤ _)⟩)
    dsimp only [Pt.U, Pt.locs, Pt.cells, Pt.slots] at X132 l132 y132 z132 st132 hQ132
    subst l132 y132 z132
    obtain ⟨rfl, Nq132, e132⟩ := hQ132
    have N132 := Fr.app N128 Nq132
    have hc136_195 : (0 : Int32) = (0 : Int32) := (by decide)
    obtain ⟨cq137, kq137, q137a, q137b, q137c⟩ := isOf hZ e132 Aq128
    obtain ⟨_, _, ⟨T137, L137, k137, n137⟩, -, X137, ⟨Lc137, hQ137, l137, y137, z137⟩, st137⟩ := X132.virtualBack hx (y := (⟨"java/lang/String", "isEmpty", "()Z"⟩ : MethodName)) (z := (⟨"java/lang/String", "isEmpty", "()Z"⟩ : MethodName)) hown (mvT hZ (hw _ (List.mem_of_getElem? (i := 54) rfl))) (mvT hZ (hw _ (List.mem_of_getElem? (i := 55) rfl))) (notFace_of_selects (args := #[]) (mvT hZ (hw _ (List.mem_of_getElem? (i := 57) rfl)))) (mvT hZ (hw _ (List.mem_of_getElem? (i := 57) rfl))) (mvT hZ (hw _ (List.mem_of_getElem? (i := 56) rfl))) (by decide) (backOf (W := 0) (rm10 l Z a0 hw [] r128 b128 kb128 (22 : Int32) _ T128.heap n0 Z128 Vq128 Rq128 (by decide)) hZ (hw _ (List.mem_of_getElem? (i := 58) rfl)) (hw _ (List.mem_of_getElem? (i := 7) rfl)) (by decide) (by decide)) q137a q137c (g := (mkF m 200 #[.val (.int p1), .val (.int p2), .val (.int p3), .val (.int p4), .val (.int p5), .val (.int (1 : Int32)), .val (.int v77), .val (.int v79), .val (.ref b80), .val (.ref b86), .val (.ref r93), .val (.ref r94), .val (.ref b95), .val (.ref b103), .val (.ref b111), .val (.ref r122), .val (.ref r122), .val (.ref r128)] [(.ref r128)])) rfl (by rw [hml]; rfl) (Steps.refl _) (argsL := []) (rest := []) (lenOf own_pd5 rfl) rfl (by show 2 * 0 + _ ≤ _; exact Nat.le_of_eq rfl) (hb hby at_200) (fun _ _ => ⟨rfl, e132, (by decide : 15 + 0 ≤ _), (by decide : 250 + 0 ≤ _)⟩)
    dsimp only [Pt.U, Pt.locs, Pt.cells, Pt.slots] at X137 l137 y137 z137 st137 hQ137
    subst l137 y137 z137
    obtain ⟨rfl, Nq137, e137⟩ := hQ137
    have N137 := Fr.app N132 Nq137
    have hc138_203 : (0 : Int32) = (0 : Int32) := (by decide)
    obtain ⟨cq139, kq139, q139a, q139b, q139c⟩ := isOf hZ e137 f135
    obtain ⟨_, _, ⟨T139, L139, k139, n139⟩, -, X139, ⟨Lc139, hQ139, l139, y139, z139⟩, st139⟩ := X137.virtualBack hx (y := (⟨"java/lang/String", "equals", "(Ljava/lang/Object;)Z"⟩ : MethodName)) (z := (⟨"java/lang/String", "equals", "(Ljava/lang/Object;)Z"⟩ : MethodName)) hown (mvT hZ (hw _ (List.mem_of_getElem? (i := 59) rfl))) (mvT hZ (hw _ (List.mem_of_getElem? (i := 60) rfl))) (notFace_of_selects (args := #[]) (mvT hZ (hw _ (List.mem_of_getElem? (i := 62) rfl)))) (mvT hZ (hw _ (List.mem_of_getElem? (i := 62) rfl))) (mvT hZ (hw _ (List.mem_of_getElem? (i := 61) rfl))) (by decide) (backOf (W := 0) (rm11s l Z a0 hw [] r122  T128.heap n0 Z128 ) hZ (hw _ (List.mem_of_getElem? (i := 63) rfl)) (hw _ (List.mem_of_getElem? (i := 7) rfl)) (by decide) (by decide)) q139a q139c (g := (mkF m 212 #[.val (.int p1), .val (.int p2), .val (.int p3), .val (.int p4), .val (.int p5), .val (.int (1 : Int32)), .val (.int v77), .val (.int v79), .val (.ref b80), .val (.ref b86), .val (.ref r93), .val (.ref r94), .val (.ref b95), .val (.ref b103), .val (.ref b111), .val (.ref r122), .val (.ref r122), .val (.ref r128)] [(.ref r122), (.ref r122)])) rfl (by rw [hml]; rfl) (Steps.refl _) (argsL := [(.ref r122)]) (rest := []) (lenOf own_pd6 rfl) rfl (by show 2 * 0 + _ ≤ _; exact Nat.le_of_eq rfl) (hb hby at_212) (fun _ _ => ⟨rfl, e137, (by decide : 15 + 0 ≤ _), (by decide : 250 + 0 ≤ _)⟩)
    dsimp only [Pt.U, Pt.locs, Pt.cells, Pt.slots] at X139 l139 y139 z139 st139 hQ139
    subst l139 y139 z139
    obtain ⟨rfl, Nq139, e139⟩ := hQ139
    have N139 := Fr.app N137 Nq139
    have go140 : own_go p e below (s₁.setTop (entryFrame m #[(.int p1), (.int p2), (.int p3), (.int p4), (.int p5)] maxLocals)) (T139.setTop (mkF m 215 #[.val (.int p1), .val (.int p2), .val (.int p3), .val (.int p4), .val (.int p5), .val (.int (1 : Int32)), .val (.int v77), .val (.int v79), .val (.ref b80), .val (.ref b86), .val (.ref r93), .val (.ref r94), .val (.ref b95), .val (.ref b103), .val (.ref b111), .val (.ref r122), .val (.ref r122), .val (.ref r128)] [(.int (1 : Int32))])) := by
      intro ttx ktx
      refine go131 ttx ?_
      show Steps p.tables e below (T128.setTop (mkF m 173 #[.val (.int p1), .val (.int p2), .val (.int p3), .val (.int p4), .val (.int p5), .val (.int (1 : Int32)), .val (.int v77), .val (.int v79), .val (.ref b80), .val (.ref b86), .val (.ref r93), .val (.ref r94), .val (.ref b95), .val (.ref b103), .val (.ref b111), .val (.ref r122), .val (.ref r122), .val (.ref r128)] [])) _
      refine XS.aload X128.here hx rfl (hb hby at_173) rfl rfl ?_
      show Steps p.tables e below (T128.setTop (mkF m 175 #[.val (.int p1), .val (.int p2), .val (.int p3), .val (.int p4), .val (.int p5), .val (.int (1 : Int32)), .val (.int v77), .val (.int v79), .val (.ref b80), .val (.ref b86), .val (.ref r93), .val (.ref r94), .val (.ref b95), .val (.ref b103), .val (.ref b111), .val (.ref r122), .val (.ref r122), .val (.ref r128)] [(.ref r122)])) _
      refine XS.ifnullNo X128.here hx rfl (hb hby at_175) rfl ?_
      show Steps p.tables e below (T128.setTop (mkF m 178 #[.val (.int p1), .val (.int p2), .val (.int p3), .val (.int p4), .val (.int p5), .val (.int (1 : Int32)), .val (.int v77), .val (.int v79), .val (.ref b80), .val (.ref b86), .val (.ref r93), .val (.ref r94), .val (.ref b95), .val (.ref b103), .val (.ref b111), .val (.ref r122), .val (.ref r122), .val (.ref r128)] [])) _
      refine XS.aload X128.here hx rfl (hb hby at_178) rfl rfl ?_
      show Steps p.tables e below (T128.setTop (mkF m 180 #[.val (.int p1), .val (.int p2), .val (.int p3), .val (.int p4), .val (.int p5), .val (.int (1 : Int32)), .val (.int v77), .val (.int v79), .val (.ref b80), .val (.ref b86), .val (.ref r93), .val (.ref r94), .val (.ref b95), .val (.ref b103), .val (.ref b111), .val (.ref r122), .val (.ref r122), .val (.ref r128)] [(.ref r122)])) _
      refine XS.ifnullNo X128.here hx rfl (hb hby at_180) rfl ?_
      show Steps p.tables e below (T128.setTop (mkF m 183 #[.val (.int p1), .val (.int p2), .val (.int p3), .val (.int p4), .val (.int p5), .val (.int (1 : Int32)), .val (.int v77), .val (.int v79), .val (.ref b80), .val (.ref b86), .val (.ref r93), .val (.ref r94), .val (.ref b95), .val (.ref b103), .val (.ref b111), .val (.ref r122), .val (.ref r122), .val (.ref r128)] [])) _
      refine XS.aload X128.here hx rfl (hb hby at_183) rfl rfl ?_
      show Steps p.tables e below (T128.setTop (mkF m 185 #[.val (.int p1), .val (.int p2), .val (.int p3), .val (.int p4), .val (.int p5), .val (.int (1 : Int32)), .val (.int v77), .val (.int v79), .val (.ref b80), .val (.ref b86), .val (.ref r93), .val (.ref r94), .val (.ref b95), .val (.ref b103), .val (.ref b111), .val (.ref r122), .val (.ref r122), .val (.ref r128)] [(.ref r128)])) _
      refine XS.ifnonnullYes X128.here hx rfl (pc0 := 185) (pc' := 190) rfl (hb hby at_185) rfl (by decide) (by decide) ?_
      show Steps p.tables e below (T128.setTop (mkF m 190 #[.val (.int p1), .val (.int p2), .val (.int p3), .val (.int p4), .val (.int p5), .val (.int (1 : Int32)), .val (.int v77), .val (.int v79), .val (.ref b80), .val (.ref b86), .val (.ref r93), .val (.ref r94), .val (.ref b95), .val (.ref b103), .val (.ref b111), .val (.ref r122), .val (.ref r122), .val (.ref r128)] [])) _
      refine XS.aload X128.here hx rfl (hb hby at_190) rfl rfl ?_
      show Steps p.tables e below (T128.setTop (mkF m 192 #[.val (.int p1), .val (.int p2), .val (.int p3), .val (.int p4), .val (.int p5), .val (.int (1 : Int32)), .val (.int v77), .val (.int v79), .val (.ref b80), .val (.ref b86), .val (.ref r93), .val (.ref r94), .val (.ref b95), .val (.ref b103), .val (.ref b111), .val (.ref r122), .val (.ref r122), .val (.ref r128)] [(.ref r122)])) _
      refine st132.trans ?_
      show Steps p.tables e below (T132.setTop (mkF m 195 #[.val (.int p1), .val (.int p2), .val (.int p3), .val (.int p4), .val (.int p5), .val (.int (1 : Int32)), .val (.int v77), .val (.int v79), .val (.ref b80), .val (.ref b86), .val (.ref r93), .val (.ref r94), .val (.ref b95), .val (.ref b103), .val (.ref b111), .val (.ref r122), .val (.ref r122), .val (.ref r128)] [(.int (0 : Int32))])) _
      refine XS.ifNo X132.here hx rfl (hb hby at_195) rfl ((if0 _ _).trans (teq hc136_195).2) ?_
      show Steps p.tables e below (T132.setTop (mkF m 198 #[.val (.int p1), .val (.int p2), .val (.int p3), .val (.int p4), .val (.int p5), .val (.int (1 : Int32)), .val (.int v77), .val (.int v79), .val (.ref b80), .val (.ref b86), .val (.ref r93), .val (.ref r94), .val (.ref b95), .val (.ref b103), .val (.ref b111), .val (.ref r122), .val (.ref r122), .val (.ref r128)] [])) _
      refine XS.aload X132.here hx rfl (hb hby at_198) rfl rfl ?_
      show Steps p.tables e below (T132.setTop (mkF m 200 #[.val (.int p1), .val (.int p2), .val (.int p3), .val (.int p4), .val (.int p5), .val (.int (1 : Int32)), .val (.int v77), .val (.int v79), .val (.ref b80), .val (.ref b86), .val (.ref r93), .val (.ref r94), .val (.ref b95), .val (.ref b103), .val (.ref b111), .val (.ref r122), .val (.ref r122), .val (.ref r128)] [(.ref r128)])) _
      refine st137.trans ?_
      show Steps p.tables e below (T137.setTop (mkF m 203 #[.val (.int p1), .val (.int p2), .val (.int p3), .val (.int p4), .val (.int p5), .val (.int (1 : Int32)), .val (.int v77), .val (.int v79), .val (.ref b80), .val (.ref b86), .val (.ref r93), .val (.ref r94), .val (.ref b95), .val (.ref b103), .val (.ref b111), .val (.ref r122), .val (.ref r122), .val (.ref r128)] [(.int (0 : Int32))])) _
      refine XS.ifYes X137.here hx rfl (pc0 := 203) (pc' := 208) rfl (hb hby at_203) rfl ((if0 _ _).trans (teq hc138_203).1) (by decide) (by decide) ?_
      show Steps p.tables e below (T137.setTop (mkF m 208 #[.val (.int p1), .val (.int p2), .val (.int p3), .val (.int p4), .val (.int p5), .val (.int (1 : Int32)), .val (.int v77), .val (.int v79), .val (.ref b80), .val (.ref b86), .val (.ref r93), .val (.ref r94), .val (.ref b95), .val (.ref b103), .val (.ref b111), .val (.ref r122), .val (.ref r122), .val (.ref r128)] [])) _
      refine XS.aload X137.here hx rfl (hb hby at_208) rfl rfl ?_
      show Steps p.tables e below (T137.setTop (mkF m 210 #[.val (.int p1), .val (.int p2), .val (.int p3), .val (.int p4), .val (.int p5), .val (.int (1 : Int32)), .val (.int v77), .val (.int v79), .val (.ref b80), .val (.ref b86), .val (.ref r93), .val (.ref r94), .val (.ref b95), .val (.ref b103), .val (.ref b111), .val (.ref r122), .val (.ref r122), .val (.ref r128)] [(.ref r122)])) _
      refine XS.aload X137.here hx rfl (hb hby at_210) rfl rfl ?_
      show Steps p.tables e below (T137.setTop (mkF m 212 #[.val (.int p1), .val (.int p2), .val (.int p3), .val (.int p4), .val (.int p5), .val (.int (1 : Int32)), .val (.int v77), .val (.int v79), .val (.ref b80), .val (.ref b86), .val (.ref r93), .val (.ref r94), .val (.ref b95), .val (.ref b103), .val (.ref b111), .val (.ref r122), .val (.ref r122), .val (.ref r128)] [(.ref r122), (.ref r122)])) _
      refine st139.trans ?_
      exact ktx
    have hc141_215 : ¬ ((1 : Int32) = (0 : Int32)) := (by decide)
    have f143 := (Cq122.ext Eq128)
    obtain ⟨cq142, kq142, q142a, q142b, q142c⟩ := isOf hZ e139 f135
    obtain ⟨_, _, ⟨T142, L142, k142, n142⟩, -, X142, ⟨Lc142, hQ142, l142, y142, z142⟩, st142⟩ := X139.virtualBack hx (y := (⟨"java/lang/String", "equals", "(Ljava/lang/Object;)Z"⟩ : MethodName)) (z := (⟨"java/lang/String", "equals", "(Ljava/lang/Object;)Z"⟩ : MethodName)) hown (mvT hZ (hw _ (List.mem_of_getElem? (i := 59) rfl))) (mvT hZ (hw _ (List.mem_of_getElem? (i := 60) rfl))) (notFace_of_selects (args := #[]) (mvT hZ (hw _ (List.mem_of_getElem? (i := 62) rfl)))) (mvT hZ (hw _ (List.mem_of_getElem? (i := 62) rfl))) (mvT hZ (hw _ (List.mem_of_getElem? (i := 61) rfl))) (by decide) (backOf (W := 0) (rm11d l Z a0 hw [] r122 r128 G1 b122 b128 kb122 (32 : Int32) _ kb128 (22 : Int32) _ T128.heap n0 Z128 (own_sne f133 f134 Vq128 Rq128 (by decide)) Aq128 (O2.ext O128.2) P5 f143 f133 f134 Cq128 Vq128 Rq128 (by decide)) hZ (hw _ (List.mem_of_getElem? (i := 63) rfl)) (hw _ (List.mem_of_getElem? (i := 7) rfl)) (by decide) (by decide)) q142a q142c (g := (mkF m 224 #[.val (.int p1), .val (.int p2), .val (.int p3), .val (.int p4), .val (.int p5), .val (.int (1 : Int32)), .val (.int v77), .val (.int v79), .val (.ref b80), .val (.ref b86), .val (.ref r93), .val (.ref r94), .val (.ref b95), .val (.ref b103), .val (.ref b111), .val (.ref r122), .val (.ref r122), .val (.ref r128)] [(.ref r128), (.ref r122)])) rfl (by rw [hml]; rfl) (Steps.refl _) (argsL := [(.ref r128)]) (rest := []) (lenOf own_pd6 rfl) rfl (by show 2 * 0 + _ ≤ _; exact Nat.le_of_eq rfl) (hb hby at_224) (fun _ _ => ⟨rfl, e139, (by decide : 15 + 0 ≤ _), (by decide : 250 + 0 ≤ _)⟩)
    dsimp only [Pt.U, Pt.locs, Pt.cells, Pt.slots] at X142 l142 y142 z142 st142 hQ142
    subst l142 y142 z142
    obtain ⟨rfl, Nq142, e142⟩ := hQ142
    have N142 := Fr.app N139 Nq142
    have hc144_227 : (0 : Int32) = (0 : Int32) := (by decide)
    have f145 := ((((f113.ext E111).keep Kq121 (ninS ne112 nin0)).ext Eq122).ext Eq128)
    obtain ⟨cl146, Ar146, q146, S146, M146, H146, G146⟩ := id f145
    have hin146 : ¬ ((0 : Int32) < 0 ∨ cl146.slots.size ≤ ((0 : Int32)).toNatClampNeg) := inb_of S146 ⟨by decide, by decide⟩
    have hat146 : cl146.slots[((0 : Int32)).toNatClampNeg]? = some (.int (nar .char v77)) := Has.at H146 hin146 rfl
    have hc147_238 : (nar .char v77) = v77 := (by rw [hv_v77]; exact own_nar _)
    obtain ⟨cl148, Ar148, q148, S148, M148, H148, G148⟩ := id f145
    have hin148 : ¬ ((1 : Int32) < 0 ∨ cl148.slots.size ≤ ((1 : Int32)).toNatClampNeg) := inb_of S148 ⟨by decide, by decide⟩
    have hat148 : cl148.slots[((1 : Int32)).toNatClampNeg]? = some (.int (nar .char v79)) := Has.at H148 hin148 rfl
    have hc149_247 : (nar .char v79) = v79 := (by rw [hv_v79]; exact own_nar _)
    have go150 : own_go p e below (s₁.setTop (entryFrame m #[(.int p1), (.int p2), (.int p3), (.int p4), (.int p5)] maxLocals)) (T142.setTop (mkF m 250 #[.val (.int p1), .val (.int p2), .val (.int p3), .val (.int p4), .val (.int p5), .val (.int (1 : Int32)), .val (.int v77), .val (.int v79), .val (.ref b80), .val (.ref b86), .val (.ref r93), .val (.ref r94), .val (.ref b95), .val (.ref b103), .val (.ref b111), .val (.ref r122), .val (.ref r122), .val (.ref r128)] [])) := by
      intro ttx ktx
      refine go140 ttx ?_
      show Steps p.tables e below (T139.setTop (mkF m 215 #[.val (.int p1), .val (.int p2), .val (.int p3), .val (.int p4), .val (.int p5), .val (.int (1 : Int32)), .val (.int v77), .val (.int v79), .val (.ref b80), .val (.ref b86), .val (.ref r93), .val (.ref r94), .val (.ref b95), .val (.ref b103), .val (.ref b111), .val (.ref r122), .val (.ref r122), .val (.ref r128)] [(.int (1 : Int32))])) _
      refine XS.ifYes X139.here hx rfl (pc0 := 215) (pc' := 220) rfl (hb hby at_215) rfl ((if0 _ _).trans (feq hc141_215).2) (by decide) (by decide) ?_
      show Steps p.tables e below (T139.setTop (mkF m 220 #[.val (.int p1), .val (.int p2), .val (.int p3), .val (.int p4), .val (.int p5), .val (.int (1 : Int32)), .val (.int v77), .val (.int v79), .val (.ref b80), .val (.ref b86), .val (.ref r93), .val (.ref r94), .val (.ref b95), .val (.ref b103), .val (.ref b111), .val (.ref r122), .val (.ref r122), .val (.ref r128)] [])) _
      refine XS.aload X139.here hx rfl (hb hby at_220) rfl rfl ?_
      show Steps p.tables e below (T139.setTop (mkF m 222 #[.val (.int p1), .val (.int p2), .val (.int p3), .val (.int p4), .val (.int p5), .val (.int (1 : Int32)), .val (.int v77), .val (.int v79), .val (.ref b80), .val (.ref b86), .val (.ref r93), .val (.ref r94), .val (.ref b95), .val (.ref b103), .val (.ref b111), .val (.ref r122), .val (.ref r122), .val (.ref r128)] [(.ref r122)])) _
      refine XS.aload X139.here hx rfl (hb hby at_222) rfl rfl ?_
      show Steps p.tables e below (T139.setTop (mkF m 224 #[.val (.int p1), .val (.int p2), .val (.int p3), .val (.int p4), .val (.int p5), .val (.int (1 : Int32)), .val (.int v77), .val (.int v79), .val (.ref b80), .val (.ref b86), .val (.ref r93), .val (.ref r94), .val (.ref b95), .val (.ref b103), .val (.ref b111), .val (.ref r122), .val (.ref r122), .val (.ref r128)] [(.ref r128), (.ref r122)])) _
      refine st142.trans ?_
      show Steps p.tables e below (T142.setTop (mkF m 227 #[.val (.int p1), .val (.int p2), .val (.int p3), .val (.int p4), .val (.int p5), .val (.int (1 : Int32)), .val (.int v77), .val (.int v79), .val (.ref b80), .val (.ref b86), .val (.ref r93), .val (.ref r94), .val (.ref b95), .val (.ref b103), .val (.ref b111), .val (.ref r122), .val (.ref r122), .val (.ref r128)] [(.int (0 : Int32))])) _
      refine XS.ifYes X142.here hx rfl (pc0 := 227) (pc' := 232) rfl (hb hby at_227) rfl ((if0 _ _).trans (teq hc144_227).1) (by decide) (by decide) ?_
      show Steps p.tables e below (T142.setTop (mkF m 232 #[.val (.int p1), .val (.int p2), .val (.int p3), .val (.int p4), .val (.int p5), .val (.int (1 : Int32)), .val (.int v77), .val (.int v79), .val (.ref b80), .val (.ref b86), .val (.ref r93), .val (.ref r94), .val (.ref b95), .val (.ref b103), .val (.ref b111), .val (.ref r122), .val (.ref r122), .val (.ref r128)] [])) _
      refine XS.aload X142.here hx rfl (hb hby at_232) rfl rfl ?_
      show Steps p.tables e below (T142.setTop (mkF m 234 #[.val (.int p1), .val (.int p2), .val (.int p3), .val (.int p4), .val (.int p5), .val (.int (1 : Int32)), .val (.int v77), .val (.int v79), .val (.ref b80), .val (.ref b86), .val (.ref r93), .val (.ref r94), .val (.ref b95), .val (.ref b103), .val (.ref b111), .val (.ref r122), .val (.ref r122), .val (.ref r128)] [(.ref b80)])) _
      refine XS.iconst X142.here hx rfl (hb hby at_234) ?_
      show Steps p.tables e below (T142.setTop (mkF m 235 #[.val (.int p1), .val (.int p2), .val (.int p3), .val (.int p4), .val (.int p5), .val (.int (1 : Int32)), .val (.int v77), .val (.int v79), .val (.ref b80), .val (.ref b86), .val (.ref r93), .val (.ref r94), .val (.ref b95), .val (.ref b103), .val (.ref b111), .val (.ref r122), .val (.ref r122), .val (.ref r128)] [(.int (0 : Int32)), (.ref b80)])) _
      refine X142.caload hx (j := (0 : Int32)) (v := (.int (nar .char v77))) (own_hp e142 Ar146.1) (State.isArrayOf_alike hZ.alike Ar146.2.1) Ar146.2.2 hin146 hat146 (g := (mkF m 235 #[.val (.int p1), .val (.int p2), .val (.int p3), .val (.int p4), .val (.int p5), .val (.int (1 : Int32)), .val (.int v77), .val (.int v79), .val (.ref b80), .val (.ref b86), .val (.ref r93), .val (.ref r94), .val (.ref b95), .val (.ref b103), .val (.ref b111), .val (.ref r122), .val (.ref r122), .val (.ref r128)] [(.int (0 : Int32)), (.ref b80)])) rfl rfl (hb hby at_235) _ ?_
      show Steps p.tables e below (T142.setTop (mkF m 236 #[.val (.int p1), .val (.int p2), .val (.int p3), .val (.int p4), .val (.int p5), .val (.int (1 : Int32)), .val (.int v77), .val (.int v79), .val (.ref b80), .val (.ref b86), .val (.ref r93), .val (.ref r94), .val (.ref b95), .val (.ref b103), .val (.ref b111), .val (.ref r122), .val (.ref r122), .val (.ref r128)] [(.int (nar .char v77))])) _
      refine XS.iload X142.here hx rfl (hb hby at_236) rfl ?_
      show Steps p.tables e below (T142.setTop (mkF m 238 #[.val (.int p1), .val (.int p2), .val (.int p3), .val (.int p4), .val (.int p5), .val (.int (1 : Int32)), .val (.int v77), .val (.int v79), .val (.ref b80), .val (.ref b86), .val (.ref r93), .val (.ref r94), .val (.ref b95), .val (.ref b103), .val (.ref b111), .val (.ref r122), .val (.ref r122), .val (.ref r128)] [(.int v77), (.int (nar .char v77))])) _
      refine XS.icmpNo X142.here hx rfl (hb hby at_238) rfl (teq hc147_238).2 ?_
      show Steps p.tables e below (T142.setTop (mkF m 241 #[.val (.int p1), .val (.int p2), .val (.int p3), .val (.int p4), .val (.int p5), .val (.int (1 : Int32)), .val (.int v77), .val (.int v79), .val (.ref b80), .val (.ref b86), .val (.ref r93), .val (.ref r94), .val (.ref b95), .val (.ref b103), .val (.ref b111), .val (.ref r122), .val (.ref r122), .val (.ref r128)] [])) _
      refine XS.aload X142.here hx rfl (hb hby at_241) rfl rfl ?_
      show Steps p.tables e below (T142.setTop (mkF m 243 #[.val (.int p1), .val (.int p2), .val (.int p3), .val (.int p4), .val (.int p5), .val (.int (1 : Int32)), .val (.int v77), .val (.int v79), .val (.ref b80), .val (.ref b86), .val (.ref r93), .val (.ref r94), .val (.ref b95), .val (.ref b103), .val (.ref b111), .val (.ref r122), .val (.ref r122), .val (.ref r128)] [(.ref b80)])) _
      refine XS.iconst X142.here hx rfl (hb hby at_243) ?_
      show Steps p.tables e below (T142.setTop (mkF m 244 #[.val (.int p1), .val (.int p2), .val (.int p3), .val (.int p4), .val (.int p5), .val (.int (1 : Int32)), .val (.int v77), .val (.int v79), .val (.ref b80), .val (.ref b86), .val (.ref r93), .val (.ref r94), .val (.ref b95), .val (.ref b103), .val (.ref b111), .val (.ref r122), .val (.ref r122), .val (.ref r128)] [(.int (1 : Int32)), (.ref b80)])) _
      refine X142.caload hx (j := (1 : Int32)) (v := (.int (nar .char v79))) (own_hp e142 Ar148.1) (State.isArrayOf_alike hZ.alike Ar148.2.1) Ar148.2.2 hin148 hat148 (g := (mkF m 244 #[.val (.int p1), .val (.int p2), .val (.int p3), .val (.int p4), .val (.int p5), .val (.int (1 : Int32)), .val (.int v77), .val (.int v79), .val (.ref b80), .val (.ref b86), .val (.ref r93), .val (.ref r94), .val (.ref b95), .val (.ref b103), .val (.ref b111), .val (.ref r122), .val (.ref r122), .val (.ref r128)] [(.int (1 : Int32)), (.ref b80)])) rfl rfl (hb hby at_244) _ ?_
      show Steps p.tables e below (T142.setTop (mkF m 245 #[.val (.int p1), .val (.int p2), .val (.int p3), .val (.int p4), .val (.int p5), .val (.int (1 : Int32)), .val (.int v77), .val (.int v79), .val (.ref b80), .val (.ref b86), .val (.ref r93), .val (.ref r94), .val (.ref b95), .val (.ref b103), .val (.ref b111), .val (.ref r122), .val (.ref r122), .val (.ref r128)] [(.int (nar .char v79))])) _
      refine XS.iload X142.here hx rfl (hb hby at_245) rfl ?_
      show Steps p.tables e below (T142.setTop (mkF m 247 #[.val (.int p1), .val (.int p2), .val (.int p3), .val (.int p4), .val (.int p5), .val (.int (1 : Int32)), .val (.int v77), .val (.int v79), .val (.ref b80), .val (.ref b86), .val (.ref r93), .val (.ref r94), .val (.ref b95), .val (.ref b103), .val (.ref b111), .val (.ref r122), .val (.ref r122), .val (.ref r128)] [(.int v79), (.int (nar .char v79))])) _
      refine XS.icmpNo X142.here hx rfl (hb hby at_247) rfl (teq hc149_247).2 ?_
      exact ktx
    have go151 : own_go p e below (s₁.setTop (entryFrame m #[(.int p1), (.int p2), (.int p3), (.int p4), (.int p5)] maxLocals)) (T142.setTop (mkF m 255 #[.val (.int p1), .val (.int p2), .val (.int p3), .val (.int p4), .val (.int p5), .val (.int (1 : Int32)), .val (.int v77), .val (.int v79), .val (.ref b80), .val (.ref b86), .val (.ref r93), .val (.ref r94), .val (.ref b95), .val (.ref b103), .val (.ref b111), .val (.ref r122), .val (.ref r122), .val (.ref r128)] [(.int (1 : Int32))])) := by
      intro ttx ktx
      refine go150 ttx ?_
      show Steps p.tables e below (T142.setTop (mkF m 250 #[.val (.int p1), .val (.int p2), .val (.int p3), .val (.int p4), .val (.int p5), .val (.int (1 : Int32)), .val (.int v77), .val (.int v79), .val (.ref b80), .val (.ref b86), .val (.ref r93), .val (.ref r94), .val (.ref b95), .val (.ref b103), .val (.ref b111), .val (.ref r122), .val (.ref r122), .val (.ref r128)] [])) _
      refine XS.iconst X142.here hx rfl (hb hby at_250) ?_
      show Steps p.tables e below (T142.setTop (mkF m 251 #[.val (.int p1), .val (.int p2), .val (.int p3), .val (.int p4), .val (.int p5), .val (.int (1 : Int32)), .val (.int v77), .val (.int v79), .val (.ref b80), .val (.ref b86), .val (.ref r93), .val (.ref r94), .val (.ref b95), .val (.ref b103), .val (.ref b111), .val (.ref r122), .val (.ref r122), .val (.ref r128)] [(.int (1 : Int32))])) _
      refine XS.goto X142.here hx rfl (pc0 := 251) (pc' := 255) rfl (hb hby at_251) (by decide) (by decide) ?_
      exact ktx
    have eLL : T142.heap = T128.heap := e142
    obtain ⟨fs, hr, hrun, hended, hend⟩ := X142.leaveW hF128 (by rw [eLL]; exact Nat.le_refl _) (v := some (.int (1 : Int32))) (fun h => by rw [Bd.returns] at h; cases h)
    refine ⟨_, _, go151 _ ?_, hrun, hended, _, _, rfl, ?_, hend.1, hend.2.1, hend.2.2.1, hend.2.2.2.mono (by decide) (by decide)⟩
    · exact retN X142 hx (t := .boolean) Bd.returns (by simp) (hb hby at_255) hr
    · show Q0 Z p1 p2 p3 p4 p5 G1 h0 n0 _ T142.heap T142.vm _
      rw [e142]
      exact ⟨rfl, N142⟩
set_option maxRecDepth 65536 in
set_option maxHeartbeats 40000000 in
theorem comes_1 {Post : Tables → Env → Array Value → State → Outcome → State → Prop} (hpost : ∀ tb e args s v u, (limb_1_1.after args s (.returned v) u = true ∧ limb_1_2.after args s (.returned v) u = true ∧ True) → ReturnedEndW s (.returned v) u (Jvm.fieldLocs frame_1_writes args s ++ Jvm.arrayLocs frame_1_arrays args s ++ Jvm.staticLocs frame_1_statics s) 40 2176 → Post tb e args s (.returned v) u) :
    ArmFor flags0 classFile x code maxLocals ret World_1 tables_1 room_1 Calls_1 rest_1 Pre_1 Post := by
  intro l hfl _ _ p e ha hc hk s m args below hf hA hF happ hP
  obtain ⟨hcalls, hrest, hpre⟩ := hP
  obtain ⟨-, -, -, hnamed, -, -, -, hat⟩ := (Spec.applies_iff hf).mp happ
  obtain ⟨hg, hn⟩ := and_e (Cond.before_iff.mp (show (Jvm.Cond.and given_1 narrow_1).before args s = true from hpre))
  obtain ⟨ga0, gb0⟩ := and_e hg
  obtain ⟨ga1, gb1⟩ := and_e gb0
  obtain ⟨ga2, gb2⟩ := and_e gb1
  obtain ⟨ga3, gb3⟩ := and_e gb2
  obtain ⟨ga4, gb4⟩ := and_e gb3
  obtain ⟨w0, w1, w2, w3, w4, rfl⟩ : ∃ w0 w1 w2 w3 w4 : Value, args = #[w0, w1, w2, w3, w4] := by
    have hs : args.size = 5 := by simpa [Cond.value, given_1] using ga0
    obtain ⟨L⟩ := args
    match L, hs with
    | [w0, w1, w2, w3, w4], _ => exact ⟨w0, w1, w2, w3, w4, rfl⟩
  have hw := fun d (hd : d ∈ tables_1) => atoms_spec (ws := Jvm.Cond.code x code maxLocals ret :: tables_1) hat d (List.mem_cons_of_mem _ hd)
  have hfit : Fit s := fun {y c} hc i hi => by
    obtain ⟨ha, rfl⟩ := Array.getElem?_eq_some_iff.mp hc
    have q := List.all_eq_true.mp ((Array.all_eq_true_iff_forall_mem.mp hF) _ (Array.getElem_mem ha)) i (List.mem_range.mpr hi)
    simpa [Array.getElem?_eq_getElem hi] using q
  obtain ⟨hsets, hown0⟩ := atoms_of _ (rest_1_c_eq ▸ (show rest_1_c.before _ s = true from hrest))
  obtain ⟨i0, ei0⟩ := is_v ga1
  obtain rfl : w0 = (.int i0) := Option.some.inj ei0
  obtain ⟨i1, ei1⟩ := is_v ga2
  obtain rfl : w1 = (.int i1) := Option.some.inj ei1
  obtain ⟨i2, ei2⟩ := is_v ga3
  obtain rfl : w2 = (.int i2) := Option.some.inj ei2
  obtain ⟨i3, ei3⟩ := is_v ga4
  obtain rfl : w3 = (.int i3) := Option.some.inj ei3
  obtain ⟨i4, ei4⟩ := is_v gb4
  obtain rfl : w4 = (.int i4) := Option.some.inj ei4
  obtain ⟨G1, eG1⟩ := is_v (Cond.before_iff.mp (hsets _ (List.mem_of_getElem? (i := 1) rfl)))
  have SG1 : Sta s s.heap "java/lang/String" "COMPACT_STRINGS" "Z" (.int G1) := Sta.start eG1 (Or.inl (hsets _ (List.mem_of_getElem? (i := 0) rfl)))
  have PG1 : ¬ (G1 = (0 : Int32)) := gotF (Cond.eq_ints eG1 (Term.int_eval (0))) (not_v (Cond.before_iff.mp (hsets _ (List.mem_of_getElem? (i := 2) rfl))))
  have HCW : Jvm.Lit.compactW.before _ s = true := (hsets _ (List.mem_of_getElem? (i := 2) rfl))
  obtain ⟨n, o, h1, h2, h3, _, L, rfl, ⟨rfl, N⟩, hq⟩ := rm0 l s _ hw tables_1 i0 i1 i2 i3 i4 G1 s.heap s.heap.size (Nat.le_refl _) SG1 PG1 (Old.start s) (hcalls.1 ("io/subjectwire/auth/Credentials", 86) (by decide)) (hcalls.1 ("io/subjectwire/auth/Credentials", 88) (by decide)) HCW p e ha hc hk s m _ below hf ((Spec.applies_iff_loose hf).mp happ).1 ⟨rfl, State.Warmed39.refl s, rfl, IB.start⟩ trivial
  refine ⟨n, _, h1, h2, h3, hpost _ _ _ _ _ _ ⟨Cond.after_iff.mpr rfl, Cond.after_iff.mpr (eq_i res_at (Term.int_eval (1)) rfl), trivial⟩ ⟨hq.1, hq.2.1, hq.2.2.1, (hq.2.2.2.sift fun y hy => Or.inr (N y hy)).mono (by decide) (by decide)⟩⟩
theorem main_1_1 : Claimed_1_1 := comes_1 fun _ _ _ _ _ _ h hF => ⟨h.1, hF⟩
theorem main_1_2 : Claimed_1_2 := comes_1 fun _ _ _ _ _ _ h hF => ⟨h.2.1, hF⟩
end Jvm.Pilot.@@N@@
namespace Jvm.Pilot.@@N@@
open Jvm Jvm.ClassFile Sem Op Lib Jvm.Free Jvm.Stand Jvm.Pilot.@@N@@.Jvm.D
/-! MADE BY PROGRAM (witnessworld.py) out of the Statement's table words and the real class files: 21 classes; the members and pool entries that the words name. The judged class is class 1, her method 2. -/
namespace start1
open Jvm.ClassFile
def u (s : String) : CpInfo := .utf8 (stringToUtf16 s)
/-- a pool by its gaps: so many unusable entries, then the entry; so many at the end -/
def gap : Nat → List CpInfo → List CpInfo
  | 0, r => r
  | n + 1, r => .unusable :: gap n r
def poolList (es : List (Nat × CpInfo)) (last : Nat) : List CpInfo := es.foldr (fun e r => gap e.1 (e.2 :: r)) (gap last [])
def pool (es : List (Nat × CpInfo)) (last : Nat) : Array CpInfo := ⟨poolList es last⟩
def fileOf (pool : Array CpInfo) (this : Nat) (attrs : Array Attribute := #[]) (ms : Array MethodInfo := #[]) (fl : Nat := 33) (sup : Nat := 0) (ifs : Array Nat := #[]) (fds : Array FieldInfo := #[]) : ClassFile where
  minorVersion := 0
  majorVersion := 65
  constantPool := pool
  accessFlags := fl
  thisClass := this
  superClass := sup
  interfaces := ifs
  fields := fds
  methods := ms
  attributes := attrs
def plain (name : String) (sup : Option ClassId) : Class where
  name := name
  kind := .ordinary
  loader := none
  accessFlags := 33
  super := sup
  interfaces := #[]
  cf := none
  fields := #[]
  methods := #[]
  instanceTypes := #[]
  staticTypes := #[]
  resolved := #[]
  callSites := []
  init := .initialized
  statics := none
  mirror := none

def pool0 : Array CpInfo := pool [(5, u "<init>"), (0, u "()V"), (1, .class_ 10), (1, u "java/lang/Object")] 113

def k0c0 : Code := { maxStack := 0, maxLocals := 1, code := object_method_1_code, exceptionTable := #[], attributes := #[] }
def k0m0 : Method := { name := "<init>", desc := "()V", sig := { parameters := [], returnType := none }, accessFlags := 1, code := some k0c0 }
/-- java/lang/Object -/
def k0 : Class := { plain "java/lang/Object" none with
  accessFlags := 33
  interfaces := #[]
  cf := some (fileOf pool0 8 #[] #[{ accessFlags := 1, nameIndex := 5, descriptorIndex := 6, attributes := #[] }] 33 0 #[] #[])
  fields := #[]
  methods := #[k0m0]
  instanceTypes := #[]
  staticTypes := #[]
  resolved := Array.replicate 124 none
  statics := none }

def pool1 : Array CpInfo := pool [(2, .class_ 4), (1, u "java/lang/Object"), (0, u "<init>"), (0, u "()V"), (0, .class_ 8), (0, u "java/lang/String"), (0, .methodref 7 10), (0, .nameAndType 5 11), (0, u "([C)V"), (0, .methodref 13 14), (0, .class_ 15), (0, .nameAndType 16 17), (0, u "io/subjectwire/auth/CredentialsToStringPinLaw"), (0, u "drawn"), (0, u "(I)Ljava/lang/String;"), (0, .class_ 19), (0, u "io/subjectwire/auth/Credentials"), (0, .methodref 18 21), (0, .nameAndType 5 22), (0, u "(Ljava/lang/String;[C)V"), (0, .methodref 18 24), (0, .nameAndType 25 26), (0, u "toString"), (0, u "()Ljava/lang/String;"), (0, .methodref 7 28), (0, .nameAndType 29 30), (0, u "isEmpty"), (0, u "()Z"), (0, .methodref 7 32), (0, .nameAndType 33 34), (0, u "equals"), (0, u "(Ljava/lang/Object;)Z"), (2, u "law"), (0, u "(IIIII)Z")] 5

def k1m0 : Method := { name := "<init>", desc := "()V", sig := { parameters := [], returnType := none }, accessFlags := 2, code := none }
def k1c1 : Code := { maxStack := 5, maxLocals := 2, code := method_2_code, exceptionTable := #[], attributes := #[] }
def k1m1 : Method := { name := "drawn", desc := "(I)Ljava/lang/String;", sig := { parameters := [.int], returnType := some (.object "java/lang/String") }, accessFlags := 10, code := some k1c1 }
def k1c2 : Code := { maxStack := 5, maxLocals := 18, code := code, exceptionTable := #[], attributes := #[] }
def k1m2 : Method := { name := "law", desc := "(IIIII)Z", sig := { parameters := [.int, .int, .int, .int, .int], returnType := some .boolean }, accessFlags := 9, code := some k1c2 }
/-- io/subjectwire/auth/CredentialsToStringPinLaw -/
def k1 : Class := { plain "io/subjectwire/auth/CredentialsToStringPinLaw" (some 0) with
  accessFlags := 49
  interfaces := #[]
  cf := some (fileOf pool1 13 #[] #[{ accessFlags := 2, nameIndex := 5, descriptorIndex := 6, attributes := #[] }, { accessFlags := 10, nameIndex := 16, descriptorIndex := 17, attributes := #[] }, { accessFlags := 9, nameIndex := 37, descriptorIndex := 38, attributes := #[] }] 49 2 #[] #[])
  fields := #[]
  methods := #[k1m0, k1m1, k1m2]
  instanceTypes := #[]
  staticTypes := #[]
  resolved := Array.replicate 44 none
  statics := none }

def pool2 : Array CpInfo := pool [(1, .class_ 2), (0, u "java/io/Serializable"), (0, .class_ 4), (0, u "java/lang/Object")] 2

/-- java/io/Serializable -/
def k2 : Class := { plain "java/io/Serializable" (some 0) with
  accessFlags := 1537
  interfaces := #[]
  cf := some (fileOf pool2 1 #[] #[] 1537 3 #[] #[])
  fields := #[]
  methods := #[]
  instanceTypes := #[]
  staticTypes := #[]
  resolved := Array.replicate 7 none
  statics := none }

def pool3 : Array CpInfo := pool [(1, .class_ 2), (0, u "java/lang/Comparable"), (0, .class_ 4), (0, u "java/lang/Object")] 7

/-- java/lang/Comparable -/
def k3 : Class := { plain "java/lang/Comparable" (some 0) with
  accessFlags := 1537
  interfaces := #[]
  cf := some (fileOf pool3 1 #[] #[] 1537 3 #[] #[])
  fields := #[]
  methods := #[]
  instanceTypes := #[]
  staticTypes := #[]
  resolved := Array.replicate 12 none
  statics := none }

def pool4 : Array CpInfo := pool [(2, .class_ 4), (1, u "java/lang/CharSequence"), (42, .class_ 48), (0, u "java/lang/CharSequence$1CodePointIterator"), (10, .class_ 60), (0, u "java/lang/CharSequence$1CharIterator"), (5, .class_ 67), (0, u "java/lang/Object")] 63

/-- java/lang/CharSequence -/
def k4 : Class := { plain "java/lang/CharSequence" (some 0) with
  accessFlags := 1537
  interfaces := #[]
  cf := some (fileOf pool4 2 #[.nestMembers #[47, 59]] #[] 1537 66 #[] #[])
  fields := #[]
  methods := #[]
  instanceTypes := #[]
  staticTypes := #[]
  resolved := Array.replicate 131 none
  statics := none }

def pool5 : Array CpInfo := pool [(1, .class_ 2), (0, u "java/lang/constant/Constable"), (0, .class_ 4), (0, u "java/lang/Object")] 6

/-- java/lang/constant/Constable -/
def k5 : Class := { plain "java/lang/constant/Constable" (some 0) with
  accessFlags := 1537
  interfaces := #[]
  cf := some (fileOf pool5 1 #[] #[] 1537 3 #[] #[])
  fields := #[]
  methods := #[]
  instanceTypes := #[]
  staticTypes := #[]
  resolved := Array.replicate 11 none
  statics := none }

def pool6 : Array CpInfo := pool [(1, .class_ 2), (0, u "java/lang/constant/ConstantDesc"), (0, .class_ 4), (0, u "java/lang/Object")] 32

/-- java/lang/constant/ConstantDesc -/
def k6 : Class := { plain "java/lang/constant/ConstantDesc" (some 0) with
  accessFlags := 1537
  interfaces := #[]
  cf := some (fileOf pool6 1 #[] #[] 1537 3 #[] #[])
  fields := #[]
  methods := #[]
  instanceTypes := #[]
  staticTypes := #[]
  resolved := Array.replicate 37 none
  statics := none }

def pool7 : Array CpInfo := pool [(1, .methodref 2 3), (0, .class_ 4), (0, .nameAndType 5 6), (0, u "java/lang/Object"), (0, u "<init>"), (0, u "()V"), (2, .fieldref 10 11), (0, .class_ 12), (0, .nameAndType 13 14), (0, u "java/lang/String"), (0, u "value"), (0, u "[B"), (0, .fieldref 10 16), (0, .nameAndType 17 18), (0, u "coder"), (0, u "B"), (2, u "hash"), (0, u "I"), (2, u "hashIsZero"), (0, u "Z"), (0, .methodref 10 28), (0, .nameAndType 5 29), (0, u "([CIILjava/lang/Void;)V"), (8, .fieldref 10 39), (0, .nameAndType 40 26), (0, u "COMPACT_STRINGS"), (1, .class_ 44), (1, u "java/lang/StringUTF16"), (0, u "compress"), (1, .methodref 42 48), (0, .nameAndType 49 50), (0, u "coderFromArrayLen"), (0, u "([BI)B"), (56, .class_ 109), (1, u "java/lang/StringLatin1"), (32, u "()Z"), (34, .methodref 42 178), (0, .nameAndType 45 179), (0, u "([CII)[B"), (361, .methodref 107 542), (0, .nameAndType 543 544), (0, u "equals"), (0, u "([B[B)Z"), (28, u "(Ljava/lang/Object;)Z"), (1, .class_ 576), (0, u "java/lang/CharSequence"), (22, u "CASE_INSENSITIVE_ORDER"), (0, u "Ljava/util/Comparator;"), (91, u "isEmpty"), (317, u "([C)V"), (90, u "serialPersistentFields"), (0, u "[Ljava/io/ObjectStreamField;"), (0, .class_ 1104), (0, u "java/lang/String$CaseInsensitiveComparator"), (1, .class_ 1107), (0, u "java/io/Serializable"), (0, .class_ 1109), (0, u "java/lang/Comparable"), (0, .class_ 1111), (0, u "java/lang/constant/Constable"), (0, .class_ 1113), (0, u "java/lang/constant/ConstantDesc"), (2, u "serialVersionUID"), (0, u "J"), (3, u "REPL"), (0, u "C"), (2, u "LATIN1"), (1, u "UTF16")] 323

def k7m0 : Method := { name := "<init>", desc := "()V", sig := { parameters := [], returnType := none }, accessFlags := 1, code := none }
def k7c1 : Code := { maxStack := 5, maxLocals := 2, code := jdk_42_method_3_code, exceptionTable := #[], attributes := #[] }
def k7m1 : Method := { name := "<init>", desc := "([C)V", sig := { parameters := [(.array .char)], returnType := none }, accessFlags := 1, code := some k7c1 }
def k7c2 : Code := { maxStack := 1, maxLocals := 1, code := jdk_42_method_55_code, exceptionTable := #[], attributes := #[] }
def k7m2 : Method := { name := "isEmpty", desc := "()Z", sig := { parameters := [], returnType := some .boolean }, accessFlags := 1, code := some k7c2 }
def k7c3 : Code := { maxStack := 2, maxLocals := 3, code := jdk_42_method_66_code, exceptionTable := #[], attributes := #[] }
def k7m3 : Method := { name := "equals", desc := "(Ljava/lang/Object;)Z", sig := { parameters := [(.object "java/lang/Object")], returnType := some .boolean }, accessFlags := 1, code := some k7c3 }
def k7c4 : Code := { maxStack := 4, maxLocals := 6, code := jdk_42_method_149_code, exceptionTable := #[], attributes := #[] }
def k7m4 : Method := { name := "<init>", desc := "([CIILjava/lang/Void;)V", sig := { parameters := [(.array .char), .int, .int, (.object "java/lang/Void")], returnType := none }, accessFlags := 2, code := some k7c4 }
/-- java/lang/String -/
def k7 : Class := { plain "java/lang/String" (some 0) with
  accessFlags := 49
  interfaces := #[2, 3, 4, 5, 6]
  cf := some (fileOf pool7 10 #[.nestMembers #[1103]] #[{ accessFlags := 1, nameIndex := 5, descriptorIndex := 6, attributes := #[] }, { accessFlags := 1, nameIndex := 5, descriptorIndex := 1010, attributes := #[] }, { accessFlags := 1, nameIndex := 692, descriptorIndex := 142, attributes := #[] }, { accessFlags := 1, nameIndex := 543, descriptorIndex := 573, attributes := #[] }, { accessFlags := 2, nameIndex := 5, descriptorIndex := 29, attributes := #[] }] 49 2 #[1106, 1108, 575, 1110, 1112] #[{ accessFlags := 18, nameIndex := 13, descriptorIndex := 14, attributes := #[] }, { accessFlags := 18, nameIndex := 17, descriptorIndex := 18, attributes := #[] }, { accessFlags := 2, nameIndex := 21, descriptorIndex := 22, attributes := #[] }, { accessFlags := 2, nameIndex := 25, descriptorIndex := 26, attributes := #[] }, { accessFlags := 26, nameIndex := 1116, descriptorIndex := 1117, attributes := #[] }, { accessFlags := 24, nameIndex := 40, descriptorIndex := 26, attributes := #[] }, { accessFlags := 26, nameIndex := 1101, descriptorIndex := 1102, attributes := #[] }, { accessFlags := 26, nameIndex := 1121, descriptorIndex := 1122, attributes := #[] }, { accessFlags := 25, nameIndex := 599, descriptorIndex := 600, attributes := #[] }, { accessFlags := 24, nameIndex := 1125, descriptorIndex := 18, attributes := #[] }, { accessFlags := 24, nameIndex := 1127, descriptorIndex := 18, attributes := #[] }])
  fields := #[{ name := "value", type := (.array .byte), accessFlags := 18, slot := 0, constantValue := 0 }, { name := "coder", type := .byte, accessFlags := 18, slot := 1, constantValue := 0 }, { name := "hash", type := .int, accessFlags := 2, slot := 2, constantValue := 0 }, { name := "hashIsZero", type := .boolean, accessFlags := 2, slot := 3, constantValue := 0 }, { name := "serialVersionUID", type := .long, accessFlags := 26, slot := 0, constantValue := 0 }, { name := "COMPACT_STRINGS", type := .boolean, accessFlags := 24, slot := 1, constantValue := 0 }, { name := "serialPersistentFields", type := (.array (.object "java/io/ObjectStreamField")), accessFlags := 26, slot := 2, constantValue := 0 }, { name := "REPL", type := .char, accessFlags := 26, slot := 3, constantValue := 0 }, { name := "CASE_INSENSITIVE_ORDER", type := (.object "java/util/Comparator"), accessFlags := 25, slot := 4, constantValue := 0 }, { name := "LATIN1", type := .byte, accessFlags := 24, slot := 5, constantValue := 0 }, { name := "UTF16", type := .byte, accessFlags := 24, slot := 6, constantValue := 0 }]
  methods := #[k7m0, k7m1, k7m2, k7m3, k7m4]
  instanceTypes := #[(.array .byte), .byte, .int, .boolean]
  staticTypes := #[.long, .boolean, (.array (.object "java/io/ObjectStreamField")), .char, (.object "java/util/Comparator"), .byte, .byte]
  resolved := Array.replicate 1451 none
  statics := some 0 }

def pool8 : Array CpInfo := pool [(6, .class_ 8), (1, u "java/lang/Object"), (0, u "<init>"), (0, u "()V"), (1, .class_ 14), (1, u "java/lang/StringUTF16"), (31, u "$assertionsDisabled"), (0, u "Z"), (13, u "HI_BYTE_SHIFT"), (0, u "I"), (2, u "LO_BYTE_SHIFT"), (49, .methodref 12 116), (0, .nameAndType 117 118), (0, u "compress"), (0, u "([CI[BII)I"), (3, u "([CII)[B"), (138, u "coderFromArrayLen"), (0, u "([BI)B"), (106, .class_ 371), (1, u "java/lang/StringUTF16$LinesSpliterator"), (58, u "MAX_LENGTH"), (196, .class_ 628), (0, u "java/lang/StringUTF16$CodePointsSpliterator"), (0, .class_ 630), (0, u "java/lang/StringUTF16$CharsSpliterator")] 4

def k8m0 : Method := { name := "<init>", desc := "()V", sig := { parameters := [], returnType := none }, accessFlags := 0, code := none }
def k8c1 : Code := { maxStack := 2, maxLocals := 2, code := jdk_52_method_15_code, exceptionTable := #[], attributes := #[] }
def k8m1 : Method := { name := "coderFromArrayLen", desc := "([BI)B", sig := { parameters := [(.array .byte), .int], returnType := some .byte }, accessFlags := 8, code := some k8c1 }
def k8c2 : Code := { maxStack := 5, maxLocals := 6, code := jdk_52_method_16_code, exceptionTable := #[], attributes := #[] }
def k8m2 : Method := { name := "compress", desc := "([CII)[B", sig := { parameters := [(.array .char), .int, .int], returnType := some (.array .byte) }, accessFlags := 9, code := some k8c2 }
def k8c3 : Code := { maxStack := 3, maxLocals := 7, code := jdk_52_method_21_code, exceptionTable := #[], attributes := #[] }
def k8m3 : Method := { name := "compress", desc := "([CI[BII)I", sig := { parameters := [(.array .char), .int, (.array .byte), .int, .int], returnType := some .int }, accessFlags := 9, code := some k8c3 }
/-- java/lang/StringUTF16 -/
def k8 : Class := { plain "java/lang/StringUTF16" (some 0) with
  accessFlags := 48
  interfaces := #[]
  cf := some (fileOf pool8 12 #[.nestMembers #[627, 629, 369]] #[{ accessFlags := 0, nameIndex := 9, descriptorIndex := 10, attributes := #[] }, { accessFlags := 8, nameIndex := 261, descriptorIndex := 262, attributes := #[] }, { accessFlags := 9, nameIndex := 117, descriptorIndex := 122, attributes := #[] }, { accessFlags := 9, nameIndex := 117, descriptorIndex := 118, attributes := #[] }] 48 6 #[] #[{ accessFlags := 26, nameIndex := 61, descriptorIndex := 62, attributes := #[] }, { accessFlags := 26, nameIndex := 65, descriptorIndex := 62, attributes := #[] }, { accessFlags := 24, nameIndex := 430, descriptorIndex := 62, attributes := #[] }, { accessFlags := 4120, nameIndex := 46, descriptorIndex := 47, attributes := #[] }])
  fields := #[{ name := "HI_BYTE_SHIFT", type := .int, accessFlags := 26, slot := 0, constantValue := 0 }, { name := "LO_BYTE_SHIFT", type := .int, accessFlags := 26, slot := 1, constantValue := 0 }, { name := "MAX_LENGTH", type := .int, accessFlags := 24, slot := 2, constantValue := 0 }, { name := "$assertionsDisabled", type := .boolean, accessFlags := 4120, slot := 3, constantValue := 0 }]
  methods := #[k8m0, k8m1, k8m2, k8m3]
  instanceTypes := #[]
  staticTypes := #[.int, .int, .int, .boolean]
  resolved := Array.replicate 635 none
  statics := none }

def pool9 : Array CpInfo := pool [(1, .class_ 2), (0, u "java/lang/AutoCloseable"), (0, .class_ 4), (0, u "java/lang/Object")] 7

/-- java/lang/AutoCloseable -/
def k9 : Class := { plain "java/lang/AutoCloseable" (some 0) with
  accessFlags := 1537
  interfaces := #[]
  cf := some (fileOf pool9 1 #[] #[] 1537 3 #[] #[])
  fields := #[]
  methods := #[]
  instanceTypes := #[]
  staticTypes := #[]
  resolved := Array.replicate 12 none
  statics := none }

def pool10 : Array CpInfo := pool [(1, .methodref 2 3), (0, .class_ 4), (0, .nameAndType 5 6), (0, u "java/lang/Object"), (0, u "<init>"), (0, u "()V"), (0, .fieldref 8 9), (0, .class_ 10), (0, .nameAndType 11 12), (0, u "io/subjectwire/auth/Credentials"), (0, u "jwt"), (0, u "Ljava/lang/String;"), (0, .fieldref 8 14), (0, .nameAndType 15 16), (0, u "seed"), (0, u "[C"), (53, u "(Ljava/lang/String;[C)V"), (15, .string 87), (0, u "Credentials[nkey seed]"), (0, .string 89), (0, u "Credentials[user JWT, nkey seed]"), (0, .class_ 91), (0, u "java/lang/AutoCloseable"), (17, u "toString"), (0, u "()Ljava/lang/String;")] 18

def k10c0 : Code := { maxStack := 2, maxLocals := 3, code := prog_32_method_1_code, exceptionTable := #[], attributes := #[] }
def k10m0 : Method := { name := "<init>", desc := "(Ljava/lang/String;[C)V", sig := { parameters := [(.object "java/lang/String"), (.array .char)], returnType := none }, accessFlags := 0, code := some k10c0 }
def k10c1 : Code := { maxStack := 1, maxLocals := 1, code := prog_32_method_6_code, exceptionTable := #[], attributes := #[] }
def k10m1 : Method := { name := "toString", desc := "()Ljava/lang/String;", sig := { parameters := [], returnType := some (.object "java/lang/String") }, accessFlags := 1, code := some k10c1 }
/-- io/subjectwire/auth/Credentials -/
def k10 : Class := { plain "io/subjectwire/auth/Credentials" (some 0) with
  accessFlags := 49
  interfaces := #[9]
  cf := some (fileOf pool10 8 #[] #[{ accessFlags := 0, nameIndex := 5, descriptorIndex := 70, attributes := #[] }, { accessFlags := 1, nameIndex := 109, descriptorIndex := 110, attributes := #[] }] 49 2 #[90] #[{ accessFlags := 18, nameIndex := 11, descriptorIndex := 12, attributes := #[] }, { accessFlags := 18, nameIndex := 15, descriptorIndex := 16, attributes := #[] }])
  fields := #[{ name := "jwt", type := (.object "java/lang/String"), accessFlags := 18, slot := 0, constantValue := 0 }, { name := "seed", type := (.array .char), accessFlags := 18, slot := 1, constantValue := 0 }]
  methods := #[k10m0, k10m1]
  instanceTypes := #[(.object "java/lang/String"), (.array .char)]
  staticTypes := #[]
  resolved := Array.replicate 129 none
  statics := none }

def pool11 : Array CpInfo := pool [(4, .class_ 6), (1, u "java/lang/Object"), (0, u "<init>"), (0, u "()V"), (5, .class_ 16), (1, u "java/lang/StringLatin1"), (104, u "$assertionsDisabled"), (0, u "Z"), (98, .class_ 223), (1, u "java/lang/StringLatin1$LinesSpliterator"), (57, u "equals"), (0, u "([B[B)Z"), (107, .class_ 391), (0, u "java/lang/StringLatin1$CharsSpliterator")] 3

def k11m0 : Method := { name := "<init>", desc := "()V", sig := { parameters := [], returnType := none }, accessFlags := 0, code := none }
def k11c1 : Code := { maxStack := 3, maxLocals := 3, code := jdk_43_method_13_code, exceptionTable := #[], attributes := #[] }
def k11m1 : Method := { name := "equals", desc := "([B[B)Z", sig := { parameters := [(.array .byte), (.array .byte)], returnType := some .boolean }, accessFlags := 9, code := some k11c1 }
/-- java/lang/StringLatin1 -/
def k11 : Class := { plain "java/lang/StringLatin1" (some 0) with
  accessFlags := 48
  interfaces := #[]
  cf := some (fileOf pool11 14 #[.nestMembers #[390, 221]] #[{ accessFlags := 0, nameIndex := 7, descriptorIndex := 8, attributes := #[] }, { accessFlags := 9, nameIndex := 281, descriptorIndex := 282, attributes := #[] }] 48 4 #[] #[{ accessFlags := 4120, nameIndex := 121, descriptorIndex := 122, attributes := #[] }])
  fields := #[{ name := "$assertionsDisabled", type := .boolean, accessFlags := 4120, slot := 0, constantValue := 0 }]
  methods := #[k11m0, k11m1]
  instanceTypes := #[]
  staticTypes := #[.boolean]
  resolved := Array.replicate 395 none
  statics := none }

def pool12 : Array CpInfo := pool [(2, .class_ 4), (1, u "java/lang/Object"), (0, u "<init>"), (0, u "()V"), (17, .class_ 26), (1, u "jdk/internal/util/Preconditions"), (28, .class_ 56), (0, u "jdk/internal/util/Preconditions$4"), (57, .class_ 115), (0, u "jdk/internal/util/Preconditions$1"), (7, u "SIOOBE_FORMATTER"), (0, u "Ljava/util/function/BiFunction;"), (0, .class_ 126), (0, u "jdk/internal/util/Preconditions$2"), (3, u "AIOOBE_FORMATTER"), (0, .class_ 132), (0, u "jdk/internal/util/Preconditions$3"), (3, u "IOOBE_FORMATTER")] 57

def k12m0 : Method := { name := "<init>", desc := "()V", sig := { parameters := [], returnType := none }, accessFlags := 1, code := none }
/-- jdk/internal/util/Preconditions -/
def k12 : Class := { plain "jdk/internal/util/Preconditions" (some 0) with
  accessFlags := 33
  interfaces := #[]
  cf := some (fileOf pool12 24 #[.nestMembers #[55, 131, 125, 114]] #[{ accessFlags := 1, nameIndex := 5, descriptorIndex := 6, attributes := #[] }] 33 2 #[] #[{ accessFlags := 25, nameIndex := 123, descriptorIndex := 124, attributes := #[] }, { accessFlags := 25, nameIndex := 130, descriptorIndex := 124, attributes := #[] }, { accessFlags := 25, nameIndex := 136, descriptorIndex := 124, attributes := #[] }])
  fields := #[{ name := "SIOOBE_FORMATTER", type := (.object "java/util/function/BiFunction"), accessFlags := 25, slot := 0, constantValue := 0 }, { name := "AIOOBE_FORMATTER", type := (.object "java/util/function/BiFunction"), accessFlags := 25, slot := 1, constantValue := 0 }, { name := "IOOBE_FORMATTER", type := (.object "java/util/function/BiFunction"), accessFlags := 25, slot := 2, constantValue := 0 }]
  methods := #[k12m0]
  instanceTypes := #[]
  staticTypes := #[(.object "java/util/function/BiFunction"), (.object "java/util/function/BiFunction"), (.object "java/util/function/BiFunction")]
  resolved := Array.replicate 194 none
  statics := some 1 }

def pool13 : Array CpInfo := pool [(9, u "<init>"), (6, .class_ 18), (1, u "java/lang/Object"), (0, u "()V"), (1, .class_ 23), (1, u "jdk/internal/util/ArraysSupport"), (0, u "LOG2_ARRAY_LONG_INDEX_SCALE"), (0, u "I"), (2, u "U"), (0, u "Ljdk/internal/misc/Unsafe;"), (8, u "BIG_ENDIAN"), (0, u "Z"), (8, u "LOG2_BYTE_BIT_SIZE"), (4, u "LOG2_ARRAY_INT_INDEX_SCALE"), (54, u "JLA"), (0, u "Ljdk/internal/access/JavaLangAccess;"), (11, u "LOG2_ARRAY_BOOLEAN_INDEX_SCALE"), (9, u "LOG2_ARRAY_BYTE_INDEX_SCALE"), (5, u "LOG2_ARRAY_CHAR_INDEX_SCALE"), (5, u "LOG2_ARRAY_SHORT_INDEX_SCALE"), (18, u "LOG2_ARRAY_FLOAT_INDEX_SCALE"), (24, u "LOG2_ARRAY_DOUBLE_INDEX_SCALE"), (89, u "T_BOOLEAN"), (2, u "T_CHAR"), (1, u "T_FLOAT"), (1, u "T_DOUBLE"), (1, u "T_BYTE"), (1, u "T_SHORT"), (1, u "T_INT"), (1, u "T_LONG"), (1, u "SOFT_MAX_ARRAY_LENGTH")] 83

def k13m0 : Method := { name := "<init>", desc := "()V", sig := { parameters := [], returnType := none }, accessFlags := 2, code := none }
/-- jdk/internal/util/ArraysSupport -/
def k13 : Class := { plain "jdk/internal/util/ArraysSupport" (some 0) with
  accessFlags := 33
  interfaces := #[]
  cf := some (fileOf pool13 21 #[] #[{ accessFlags := 2, nameIndex := 9, descriptorIndex := 19, attributes := #[] }] 33 16 #[] #[{ accessFlags := 24, nameIndex := 28, descriptorIndex := 29, attributes := #[] }, { accessFlags := 26, nameIndex := 38, descriptorIndex := 39, attributes := #[] }, { accessFlags := 25, nameIndex := 121, descriptorIndex := 25, attributes := #[] }, { accessFlags := 25, nameIndex := 131, descriptorIndex := 25, attributes := #[] }, { accessFlags := 25, nameIndex := 137, descriptorIndex := 25, attributes := #[] }, { accessFlags := 25, nameIndex := 143, descriptorIndex := 25, attributes := #[] }, { accessFlags := 25, nameIndex := 53, descriptorIndex := 25, attributes := #[] }, { accessFlags := 25, nameIndex := 24, descriptorIndex := 25, attributes := #[] }, { accessFlags := 25, nameIndex := 162, descriptorIndex := 25, attributes := #[] }, { accessFlags := 25, nameIndex := 187, descriptorIndex := 25, attributes := #[] }, { accessFlags := 26, nameIndex := 48, descriptorIndex := 25, attributes := #[] }, { accessFlags := 25, nameIndex := 277, descriptorIndex := 25, attributes := #[] }, { accessFlags := 25, nameIndex := 280, descriptorIndex := 25, attributes := #[] }, { accessFlags := 25, nameIndex := 282, descriptorIndex := 25, attributes := #[] }, { accessFlags := 25, nameIndex := 284, descriptorIndex := 25, attributes := #[] }, { accessFlags := 25, nameIndex := 286, descriptorIndex := 25, attributes := #[] }, { accessFlags := 25, nameIndex := 288, descriptorIndex := 25, attributes := #[] }, { accessFlags := 25, nameIndex := 290, descriptorIndex := 25, attributes := #[] }, { accessFlags := 25, nameIndex := 292, descriptorIndex := 25, attributes := #[] }, { accessFlags := 26, nameIndex := 108, descriptorIndex := 109, attributes := #[] }, { accessFlags := 25, nameIndex := 294, descriptorIndex := 25, attributes := #[] }])
  fields := #[{ name := "U", type := (.object "jdk/internal/misc/Unsafe"), accessFlags := 24, slot := 0, constantValue := 0 }, { name := "BIG_ENDIAN", type := .boolean, accessFlags := 26, slot := 1, constantValue := 0 }, { name := "LOG2_ARRAY_BOOLEAN_INDEX_SCALE", type := .int, accessFlags := 25, slot := 2, constantValue := 0 }, { name := "LOG2_ARRAY_BYTE_INDEX_SCALE", type := .int, accessFlags := 25, slot := 3, constantValue := 0 }, { name := "LOG2_ARRAY_CHAR_INDEX_SCALE", type := .int, accessFlags := 25, slot := 4, constantValue := 0 }, { name := "LOG2_ARRAY_SHORT_INDEX_SCALE", type := .int, accessFlags := 25, slot := 5, constantValue := 0 }, { name := "LOG2_ARRAY_INT_INDEX_SCALE", type := .int, accessFlags := 25, slot := 6, constantValue := 0 }, { name := "LOG2_ARRAY_LONG_INDEX_SCALE", type := .int, accessFlags := 25, slot := 7, constantValue := 0 }, { name := "LOG2_ARRAY_FLOAT_INDEX_SCALE", type := .int, accessFlags := 25, slot := 8, constantValue := 0 }, { name := "LOG2_ARRAY_DOUBLE_INDEX_SCALE", type := .int, accessFlags := 25, slot := 9, constantValue := 0 }, { name := "LOG2_BYTE_BIT_SIZE", type := .int, accessFlags := 26, slot := 10, constantValue := 0 }, { name := "T_BOOLEAN", type := .int, accessFlags := 25, slot := 11, constantValue := 0 }, { name := "T_CHAR", type := .int, accessFlags := 25, slot := 12, constantValue := 0 }, { name := "T_FLOAT", type := .int, accessFlags := 25, slot := 13, constantValue := 0 }, { name := "T_DOUBLE", type := .int, accessFlags := 25, slot := 14, constantValue := 0 }, { name := "T_BYTE", type := .int, accessFlags := 25, slot := 15, constantValue := 0 }, { name := "T_SHORT", type := .int, accessFlags := 25, slot := 16, constantValue := 0 }, { name := "T_INT", type := .int, accessFlags := 25, slot := 17, constantValue := 0 }, { name := "T_LONG", type := .int, accessFlags := 25, slot := 18, constantValue := 0 }, { name := "JLA", type := (.object "jdk/internal/access/JavaLangAccess"), accessFlags := 26, slot := 19, constantValue := 0 }, { name := "SOFT_MAX_ARRAY_LENGTH", type := .int, accessFlags := 25, slot := 20, constantValue := 0 }]
  methods := #[k13m0]
  instanceTypes := #[]
  staticTypes := #[(.object "jdk/internal/misc/Unsafe"), .boolean, .int, .int, .int, .int, .int, .int, .int, .int, .int, .int, .int, .int, .int, .int, .int, .int, .int, (.object "jdk/internal/access/JavaLangAccess"), .int]
  resolved := Array.replicate 378 none
  statics := none }

def pool14 : Array CpInfo := pool [(1, u "java/lang/Cloneable"), (0, .class_ 1), (0, u "java/lang/Object"), (0, .class_ 3)] 3

/-- java/lang/Cloneable -/
def k14 : Class := { plain "java/lang/Cloneable" (some 0) with
  accessFlags := 1537
  interfaces := #[]
  cf := some (fileOf pool14 2 #[] #[] 1537 4 #[] #[])
  fields := #[]
  methods := #[]
  instanceTypes := #[]
  staticTypes := #[]
  resolved := Array.replicate 8 none
  statics := none }

/-- the primitive byte -/
def k15 : Class := { plain "byte" none with kind := .primitive 'B', accessFlags := 0x411 }
/-- [B -/
def k16 : Class := { plain "[B" (some 0) with kind := .array 15 .byte, interfaces := #[14, 2], accessFlags := 1041 }

/-- the primitive char -/
def k17 : Class := { plain "char" none with kind := .primitive 'C', accessFlags := 0x411 }
/-- [C -/
def k18 : Class := { plain "[C" (some 0) with kind := .array 17 .char, interfaces := #[14, 2], accessFlags := 1041 }

/-- the primitive int -/
def k19 : Class := { plain "int" none with kind := .primitive 'I', accessFlags := 0x411 }
/-- [I -/
def k20 : Class := { plain "[I" (some 0) with kind := .array 19 .int, interfaces := #[14, 2], accessFlags := 1041 }

def heap : Heap := #[{ cls := 7, slots := #[.long 0, .int 1, .null, .int 0, .null, .int 0, .int 0], vm := .statics 7 },
  { cls := 12, slots := #[.null, .null, .null], vm := .statics 12 }]
def classes : Array Class := #[k0, k1, k2, k3, k4, k5, k6, k7, k8, k9, k10, k11, k12, k13, k14, k15, k16, k17, k18, k19, k20]
def interned : List (Array UInt16 × Addr) := []
def slotsUsed : Nat := 10
def theMethod : MethodId := ⟨1, 2⟩
def args0 : Array Value := #[.int 5, .int 6, .int 7, .int 8, .int 1]
def aboutOver (below : List Frame) : State where
  vm := { classes := classes, interned := interned.toArray }
  heap := heap
  slotsUsed := slotsUsed
  threads := #[{ frames := .invoking theMethod args0 :: below }]
def below0 : List Frame := [.native { method := ⟨0, 0⟩, args := #[] }]
def about1 : State := aboutOver below0
def p0 : Program := .bare "" "" ""
def e0 : Env := launch0.env 0 0 0
theorem w_frames : about1.frames = Frame.invoking theMethod args0 :: below0 := rfl
set_option maxRecDepth 65536 in
theorem w_args : argsFit about1.vm theMethod args0 = true := by decide +kernel
set_option maxRecDepth 65536 in
theorem w_heap : heapFits about1 = true := by decide +kernel
set_option maxRecDepth 65536 in
theorem w_runnable : about1.curStatus? = some .runnable := by decide +kernel
set_option maxRecDepth 65536 in
theorem w_alone : about1.alone = true := by decide +kernel
set_option maxRecDepth 65536 in
theorem w_named : about1.methodNamed? x = some theMethod := by decide +kernel
set_option maxRecDepth 65536 in
theorem w_hears : about1.hears theMethod below0 = true := by decide +kernel
set_option maxRecDepth 65536 in
theorem w_ripe : about1.ripe theMethod args0 below0 = true := by decide +kernel
theorem w_running : about1.status = .running := rfl
set_option maxRecDepth 65536 in
theorem w_room : about1.hasRoom e0.platform room_1 = true :=
  launch0.hasRoom_least _ room_1 (by decide +kernel) (by decide +kernel) (by decide +kernel) (by decide +kernel) (by decide +kernel) (by decide +kernel)
theorem allAtoms_all (ts : List Jvm.Cond) (a : Array Jvm.Value) (st : Jvm.State) : (allAtoms ts).before a st = ts.all (fun c => c.before a st) := by
  induction ts with
  | nil => rfl
  | cons c t ih =>
    show (Jvm.Cond.and c (allAtoms t)).before a st = _
    rw [Jvm.Cond.before_and, ih, List.all_cons]
def words1 : List Jvm.Cond := Jvm.Cond.code x code maxLocals ret :: tables_1
/-- a 'code' word, met by the world's own term for the bytes: nothing is compared byte by byte -/
theorem code_word {y : MethodName} {bytes : ByteArray} {mx : Nat} {rt : Option FieldType} {a : Array Value} {s : State} {m : MethodId} {meth : Method} {c : Code} (h1 : s.methodNamed? y = some m) (h2 : s.vm.method? m = some meth) (h3 : meth.code = some c) (h4 : c.code = bytes)
    (h5 : (c.maxLocals == mx && c.exceptionTable.isEmpty && decide (c.maxStack ≤ mostOperands) && decide (meth.sig.returnType = rt) && !meth.locks && decide (parseMethodDescriptor y.desc = some meth.sig)) = true) : (Jvm.Cond.code y bytes mx rt).before a s = true := by
  simp only [Bool.and_eq_true, beq_iff_eq, Bool.not_eq_true', decide_eq_true_eq] at h5
  obtain ⟨⟨⟨⟨⟨g1, g2⟩, g3⟩, g4⟩, g5⟩, g6⟩ := h5
  simp [Cond.before, Cond.holds, Cond.value, h1, h2, h3, h4, g1, g2, g3, g4, g5, g6]
def isCode : Jvm.Cond → Bool
  | .code _ _ _ _ => true
  | _ => false
theorem all_split {L : List Jvm.Cond} {P : Jvm.Cond → Bool} (h1 : L.all (fun c => isCode c || P c) = true) (h2 : ∀ c ∈ L.filter isCode, P c = true) : L.all P = true := by
  refine List.all_eq_true.mpr fun c hc => ?_
  have h := List.all_eq_true.mp h1 c hc
  rcases Bool.eq_false_or_eq_true (isCode c) with hi | hi
  · exact h2 c (List.mem_filter.mpr ⟨hc, hi⟩)
  · simpa [hi] using h
set_option maxRecDepth 65536 in
theorem w_c0 : (Jvm.Cond.code x code maxLocals ret).before args0 about1 = true := code_word (m := ⟨1, 2⟩) (meth := k1m2) (c := k1c2) (by decide +kernel) rfl rfl rfl (by decide +kernel)
set_option maxRecDepth 65536 in
theorem w_c1 : (Jvm.Cond.code ({ cls := "io/subjectwire/auth/CredentialsToStringPinLaw", name := "drawn", desc := "(I)Ljava/lang/String;" } : Jvm.MethodName) method_2_code (2 : Nat) (Option.some (Jvm.ClassFile.FieldType.object "java/lang/String"))).before args0 about1 = true := code_word (m := ⟨1, 1⟩) (meth := k1m1) (c := k1c1) (by decide +kernel) rfl rfl rfl (by decide +kernel)
set_option maxRecDepth 65536 in
theorem w_c2 : (Jvm.Cond.code ({ cls := "java/lang/String", name := "<init>", desc := "([C)V" } : Jvm.MethodName) jdk_42_method_3_code (2 : Nat) (Option.none : Option Jvm.ClassFile.FieldType)).before args0 about1 = true := code_word (m := ⟨7, 1⟩) (meth := k7m1) (c := k7c1) (by decide +kernel) rfl rfl rfl (by decide +kernel)
set_option maxRecDepth 65536 in
theorem w_c3 : (Jvm.Cond.code ({ cls := "java/lang/String", name := "<init>", desc := "([CIILjava/lang/Void;)V" } : Jvm.MethodName) jdk_42_method_149_code (6 : Nat) (Option.none : Option Jvm.ClassFile.FieldType)).before args0 about1 = true := code_word (m := ⟨7, 4⟩) (meth := k7m4) (c := k7c4) (by decide +kernel) rfl rfl rfl (by decide +kernel)
set_option maxRecDepth 65536 in
theorem w_c4 : (Jvm.Cond.code ({ cls := "java/lang/Object", name := "<init>", desc := "()V" } : Jvm.MethodName) object_method_1_code (1 : Nat) (Option.none : Option Jvm.ClassFile.FieldType)).before args0 about1 = true := code_word (m := ⟨0, 0⟩) (meth := k0m0) (c := k0c0) (by decide +kernel) rfl rfl rfl (by decide +kernel)
set_option maxRecDepth 65536 in
theorem w_c5 : (Jvm.Cond.code ({ cls := "java/lang/StringUTF16", name := "compress", desc := "([CII)[B" } : Jvm.MethodName) jdk_52_method_16_code (6 : Nat) (Option.some (Jvm.ClassFile.FieldType.array Jvm.ClassFile.FieldType.byte))).before args0 about1 = true := code_word (m := ⟨8, 2⟩) (meth := k8m2) (c := k8c2) (by decide +kernel) rfl rfl rfl (by decide +kernel)
set_option maxRecDepth 65536 in
theorem w_c6 : (Jvm.Cond.code ({ cls := "java/lang/StringUTF16", name := "compress", desc := "([CI[BII)I" } : Jvm.MethodName) jdk_52_method_21_code (7 : Nat) (Option.some Jvm.ClassFile.FieldType.int)).before args0 about1 = true := code_word (m := ⟨8, 3⟩) (meth := k8m3) (c := k8c3) (by decide +kernel) rfl rfl rfl (by decide +kernel)
set_option maxRecDepth 65536 in
theorem w_c7 : (Jvm.Cond.code ({ cls := "java/lang/StringUTF16", name := "coderFromArrayLen", desc := "([BI)B" } : Jvm.MethodName) jdk_52_method_15_code (2 : Nat) (Option.some Jvm.ClassFile.FieldType.byte)).before args0 about1 = true := code_word (m := ⟨8, 1⟩) (meth := k8m1) (c := k8c1) (by decide +kernel) rfl rfl rfl (by decide +kernel)
set_option maxRecDepth 65536 in
theorem w_c8 : (Jvm.Cond.code ({ cls := "io/subjectwire/auth/Credentials", name := "<init>", desc := "(Ljava/lang/String;[C)V" } : Jvm.MethodName) prog_32_method_1_code (3 : Nat) (Option.none : Option Jvm.ClassFile.FieldType)).before args0 about1 = true := code_word (m := ⟨10, 0⟩) (meth := k10m0) (c := k10c0) (by decide +kernel) rfl rfl rfl (by decide +kernel)
set_option maxRecDepth 65536 in
theorem w_c9 : (Jvm.Cond.code ({ cls := "io/subjectwire/auth/Credentials", name := "toString", desc := "()Ljava/lang/String;" } : Jvm.MethodName) prog_32_method_6_code (1 : Nat) (Option.some (Jvm.ClassFile.FieldType.object "java/lang/String"))).before args0 about1 = true := code_word (m := ⟨10, 1⟩) (meth := k10m1) (c := k10c1) (by decide +kernel) rfl rfl rfl (by decide +kernel)
set_option maxRecDepth 65536 in
theorem w_c10 : (Jvm.Cond.code ({ cls := "java/lang/String", name := "isEmpty", desc := "()Z" } : Jvm.MethodName) jdk_42_method_55_code (1 : Nat) (Option.some Jvm.ClassFile.FieldType.boolean)).before args0 about1 = true := code_word (m := ⟨7, 2⟩) (meth := k7m2) (c := k7c2) (by decide +kernel) rfl rfl rfl (by decide +kernel)
set_option maxRecDepth 65536 in
theorem w_c11 : (Jvm.Cond.code ({ cls := "java/lang/String", name := "equals", desc := "(Ljava/lang/Object;)Z" } : Jvm.MethodName) jdk_42_method_66_code (3 : Nat) (Option.some Jvm.ClassFile.FieldType.boolean)).before args0 about1 = true := code_word (m := ⟨7, 3⟩) (meth := k7m3) (c := k7c3) (by decide +kernel) rfl rfl rfl (by decide +kernel)
set_option maxRecDepth 65536 in
theorem w_c12 : (Jvm.Cond.code ({ cls := "java/lang/StringLatin1", name := "equals", desc := "([B[B)Z" } : Jvm.MethodName) jdk_43_method_13_code (3 : Nat) (Option.some Jvm.ClassFile.FieldType.boolean)).before args0 about1 = true := code_word (m := ⟨11, 1⟩) (meth := k11m1) (c := k11c1) (by decide +kernel) rfl rfl rfl (by decide +kernel)
def codes1 : List Jvm.Cond := [Jvm.Cond.code x code maxLocals ret, Jvm.Cond.code ({ cls := "io/subjectwire/auth/CredentialsToStringPinLaw", name := "drawn", desc := "(I)Ljava/lang/String;" } : Jvm.MethodName) method_2_code (2 : Nat) (Option.some (Jvm.ClassFile.FieldType.object "java/lang/String")), Jvm.Cond.code ({ cls := "java/lang/String", name := "<init>", desc := "([C)V" } : Jvm.MethodName) jdk_42_method_3_code (2 : Nat) (Option.none : Option Jvm.ClassFile.FieldType), Jvm.Cond.code ({ cls := "java/lang/String", name := "<init>", desc := "([CIILjava/lang/Void;)V" } : Jvm.MethodName) jdk_42_method_149_code (6 : Nat) (Option.none : Option Jvm.ClassFile.FieldType), Jvm.Cond.code ({ cls := "java/lang/Object", name := "<init>", desc := "()V" } : Jvm.MethodName) object_method_1_code (1 : Nat) (Option.none : Option Jvm.ClassFile.FieldType), Jvm.Cond.code ({ cls := "java/lang/StringUTF16", name := "compress", desc := "([CII)[B" } : Jvm.MethodName) jdk_52_method_16_code (6 : Nat) (Option.some (Jvm.ClassFile.FieldType.array Jvm.ClassFile.FieldType.byte)), Jvm.Cond.code ({ cls := "java/lang/StringUTF16", name := "compress", desc := "([CI[BII)I" } : Jvm.MethodName) jdk_52_method_21_code (7 : Nat) (Option.some Jvm.ClassFile.FieldType.int), Jvm.Cond.code ({ cls := "java/lang/StringUTF16", name := "coderFromArrayLen", desc := "([BI)B" } : Jvm.MethodName) jdk_52_method_15_code (2 : Nat) (Option.some Jvm.ClassFile.FieldType.byte), Jvm.Cond.code ({ cls := "io/subjectwire/auth/Credentials", name := "<init>", desc := "(Ljava/lang/String;[C)V" } : Jvm.MethodName) prog_32_method_1_code (3 : Nat) (Option.none : Option Jvm.ClassFile.FieldType), Jvm.Cond.code ({ cls := "io/subjectwire/auth/Credentials", name := "toString", desc := "()Ljava/lang/String;" } : Jvm.MethodName) prog_32_method_6_code (1 : Nat) (Option.some (Jvm.ClassFile.FieldType.object "java/lang/String")), Jvm.Cond.code ({ cls := "java/lang/String", name := "isEmpty", desc := "()Z" } : Jvm.MethodName) jdk_42_method_55_code (1 : Nat) (Option.some Jvm.ClassFile.FieldType.boolean), Jvm.Cond.code ({ cls := "java/lang/String", name := "equals", desc := "(Ljava/lang/Object;)Z" } : Jvm.MethodName) jdk_42_method_66_code (3 : Nat) (Option.some Jvm.ClassFile.FieldType.boolean), Jvm.Cond.code ({ cls := "java/lang/StringLatin1", name := "equals", desc := "([B[B)Z" } : Jvm.MethodName) jdk_43_method_13_code (3 : Nat) (Option.some Jvm.ClassFile.FieldType.boolean)]
set_option maxRecDepth 65536 in
theorem codes_eq : words1.filter isCode = codes1 := rfl
theorem w_codes : ∀ c ∈ words1.filter isCode, c.before args0 about1 = true := by
  rw [codes_eq]
  intro c hc
  simp only [codes1, List.mem_cons, List.not_mem_nil, or_false] at hc
  rcases hc with rfl | rfl | rfl | rfl | rfl | rfl | rfl | rfl | rfl | rfl | rfl | rfl | rfl
  · exact w_c0
  · exact w_c1
  · exact w_c2
  · exact w_c3
  · exact w_c4
  · exact w_c5
  · exact w_c6
  · exact w_c7
  · exact w_c8
  · exact w_c9
  · exact w_c10
  · exact w_c11
  · exact w_c12
set_option maxRecDepth 65536 in
theorem w_t1 : (words1.take 24).all (fun c => isCode c || c.before args0 about1) = true := by decide +kernel
set_option maxRecDepth 65536 in
theorem w_t2 : ((words1.drop 24).take 24).all (fun c => isCode c || c.before args0 about1) = true := by decide +kernel
set_option maxRecDepth 65536 in
theorem w_t3 : ((words1.drop 24).drop 24).all (fun c => isCode c || c.before args0 about1) = true := by decide +kernel
theorem w_tables : (allAtoms (Jvm.Cond.code x code maxLocals ret :: tables_1)).before args0 about1 = true := by
  rw [allAtoms_all]
  show words1.all (fun c => c.before args0 about1) = true
  refine all_split ?_ w_codes
  rw [← List.take_append_drop 24 words1, List.all_append, w_t1, ← List.take_append_drop 24 (words1.drop 24), List.all_append, w_t2, w_t3]
  rfl
set_option maxRecDepth 65536 in
theorem w_rest : rest_1_c.before args0 about1 = true := by decide +kernel
set_option maxRecDepth 65536 in
theorem w_case : (Jvm.Cond.and given_1 narrow_1).before args0 about1 = true := by decide +kernel
set_option maxRecDepth 65536 in
theorem w_consts : constsHeld consts_1 about1 := Jvm.Lit.constsHeldB_iff.mp (by decide +kernel)
theorem w_applies : (headSpec (Jvm.Cond.code x code maxLocals ret :: tables_1) room_1).applies x e0.platform about1 = true :=
  (Spec.applies_iff w_frames).mpr ⟨w_running, w_runnable, w_alone, w_named, w_hears, w_ripe, w_room, w_tables⟩
theorem atStart : AtStart classFile x code maxLocals ret World_1 tables_1 room_1 Calls_1 rest_1 Pre_1 launch0 p0 e0 about1 theMethod args0 below0 :=
  ⟨lists_1, trivial, launch0.admits_env _ _ _, launch0.least_env, fairChoices_fair.cas, fairChoices_fair.clock, w_frames, w_args, w_heap, w_applies, ⟨w_consts, trivial⟩, w_rest, w_case⟩
end start1
theorem witness_1 : WitnessClaimed_1 := ⟨start1.p0, start1.e0, start1.about1, start1.theMethod, start1.args0, start1.below0, start1.atStart⟩
end Jvm.Pilot.@@N@@
