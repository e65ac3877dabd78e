import JvmDerived
import JvmDerived.Pilot.@@N@@Statement
import JvmDerived.Pilot.@@N@@Code
set_option linter.unusedVariables false
set_option linter.unusedSimpArgs false
namespace Jvm.RoadKit
open Sem ClassFile Op Lib Jvm.Stand Jvm.Free Jvm.LawKit
section New
variable {p : Program} {l : Launch} {e : Env} {R : Room} {s : State} {m : MethodId} {args : Array Value} {below : List Frame} {meth : Method} {c : Code} {T : State} {locs : List Loc} {cells slots : Nat}
theorem own_retI (X : Stand p l e R s m args below meth c T locs cells slots) (hx : p.tables.exec = Jvm.exec) {pc : Nat} {Ls : Array Slot} {z : Int32} {rest : List Value} (hret : meth.sig.returnType = some .int) (hd : decode c.code pc = .ok (.ireturn, 1)) {fs : List Frame}
    (hl : ∀ (f : JFrame) (acts : List Action), f.method = m → f.locked = none → f.entered = [] → (doReturn e (T.setTop f) acts (some (.int z))).1 = T.setFrames fs) : Steps p.tables e below (T.setTop (mkF m pc Ls (.int z :: rest))) (T.setFrames fs) :=
  retOut X hx hret rfl (Or.inl ⟨rfl, Or.inl rfl, z, rfl⟩) hd hl
theorem own_retL (X : Stand p l e R s m args below meth c T locs cells slots) (hx : p.tables.exec = Jvm.exec) {pc : Nat} {Ls : Array Slot} {z : Int64} {rest : List Value} (hret : meth.sig.returnType = some .long) (hd : decode c.code pc = .ok (.lreturn, 1)) {fs : List Frame}
    (hl : ∀ (f : JFrame) (acts : List Action), f.method = m → f.locked = none → f.entered = [] → (doReturn e (T.setTop f) acts (some (.long z))).1 = T.setFrames fs) : Steps p.tables e below (T.setTop (mkF m pc Ls (.long z :: rest))) (T.setFrames fs) :=
  retOut X hx hret rfl (Or.inr (Or.inl ⟨rfl, rfl, z, rfl⟩)) hd hl
theorem own_retA (X : Stand p l e R s m args below meth c T locs cells slots) (hx : p.tables.exec = Jvm.exec) {pc : Nat} {Ls : Array Slot} {w : Value} {t : FieldType} {rest : List Value} (hret : meth.sig.returnType = some t) (ht : t.isReference = true) (hw : w.isRef = true) (hn : narrow t w = w) (hd : decode c.code pc = .ok (.areturn, 1)) {fs : List Frame}
    (hl : ∀ (f : JFrame) (acts : List Action), f.method = m → f.locked = none → f.entered = [] → (doReturn e (T.setTop f) acts (some w)).1 = T.setFrames fs) : Steps p.tables e below (T.setTop (mkF m pc Ls (w :: rest))) (T.setFrames fs) :=
  retOut X hx hret hn (Or.inr (Or.inr (Or.inr (Or.inr ⟨rfl, ht, hw⟩)))) hd hl
theorem own_lremM {g : JFrame} {target : State} (X : Stand p l e R s m args below meth c T locs cells slots) (hx : p.tables.exec = Jvm.exec) (hg : g.method = m) {x y : Int64} {rest : List Value} (hd : decode c.code g.pc = .ok (.lrem, 1)) (hs : g.stack = .long y :: .long x :: rest) (hy : y ≠ 0)
    (hr : Steps p.tables e below (T.setTop { g with pc := g.pc + 1, stack := .long (x % y) :: rest }) target) : Steps p.tables e below (T.setTop g) target := by
  have q : x - x / y * y = x % y := lrem_mod x y
  exact XS.lrem X.here hx hg hd hs hy (by rw [q]; exact hr)
theorem own_selp {Z s : State} {a0 args : Array Value} {y : MethodName} {n : Nat} (hZ : Z.Warmed39 s.vm) (wi : (Cond.instantiable y.cls n).before a0 Z = true) (wp : (Cond.privateMethod y).before a0 Z = true) (wm : (Cond.instanceMethod y).before a0 Z = true)
    (hy : y.cls ≠ "java/lang/invoke/MethodHandle" ∧ y.cls ≠ "java/lang/invoke/VarHandle") : (Cond.selects y.cls y y).before args s = true := by
  obtain ⟨c, k, h1, h2, h3, h4, -⟩ := Cond.instantiable_spec (mvT (args := args) hZ wi)
  exact selects_self_of_private h1 h2 (by simp only [Bool.or_eq_false_iff] at h4; exact h4.1) (Cond.privateMethod_at (mvP hZ wp (args := #[]))) (mvT hZ wm) hy
end New
end Jvm.RoadKit
namespace Jvm.Pilot.@@N@@
open Jvm Jvm.ClassFile Sem Op Lib Jvm.Free Jvm.Stand Jvm.LawKit Jvm.RoadKit Bundle Jvm.Pilot.@@N@@.Jvm.D
def Q7_1 (Z : State) (a2 : Addr) (k2 : ClassId) (ee0 : Int32) (h0 : Heap) (n0 : Nat) (v : Option Value) (h : Heap) (L : List Loc) : Prop := v = some (.int (1 : Int32)) ∧ Fr n0 L ∧ Keep h0 h [a2] ∧ Arv Z h a2 k2 .byte (1 : Int32) [(.int (nar .byte (ee0.toInt8.toInt32)))] (.int (0 : Int32))
theorem d7_0 : decode jdk_52_method_21_code 0 = .ok (.iconst 0, 1) := by decide +kernel
theorem d7_1 : decode jdk_52_method_21_code 1 = .ok (.istore 5, 2) := by decide +kernel
theorem d7_3 : decode jdk_52_method_21_code 3 = .ok (.iload 5, 2) := by decide +kernel
theorem d7_5 : decode jdk_52_method_21_code 5 = .ok (.iload 4, 2) := by decide +kernel
theorem d7_7 : decode jdk_52_method_21_code 7 = .ok (.if_icmp .ge 37, 3) := by decide +kernel
theorem d7_10 : decode jdk_52_method_21_code 10 = .ok (.aload_n 0, 1) := by decide +kernel
theorem d7_11 : decode jdk_52_method_21_code 11 = .ok (.iload_n 1, 1) := by decide +kernel
theorem d7_12 : decode jdk_52_method_21_code 12 = .ok (.caload, 1) := by decide +kernel
theorem d7_13 : decode jdk_52_method_21_code 13 = .ok (.istore 6, 2) := by decide +kernel
theorem d7_15 : decode jdk_52_method_21_code 15 = .ok (.iload 6, 2) := by decide +kernel
theorem d7_17 : decode jdk_52_method_21_code 17 = .ok (.sipush 255, 3) := by decide +kernel
theorem d7_20 : decode jdk_52_method_21_code 20 = .ok (.if_icmp .le 6, 3) := by decide +kernel
theorem d7_23 : decode jdk_52_method_21_code 23 = .ok (.iload 5, 2) := by decide +kernel
theorem d7_25 : decode jdk_52_method_21_code 25 = .ok (.ireturn, 1) := by decide +kernel
theorem d7_26 : decode jdk_52_method_21_code 26 = .ok (.aload_n 2, 1) := by decide +kernel
theorem d7_27 : decode jdk_52_method_21_code 27 = .ok (.iload_n 3, 1) := by decide +kernel
theorem d7_28 : decode jdk_52_method_21_code 28 = .ok (.iload 6, 2) := by decide +kernel
theorem d7_30 : decode jdk_52_method_21_code 30 = .ok (.i2b, 1) := by decide +kernel
theorem d7_31 : decode jdk_52_method_21_code 31 = .ok (.bastore, 1) := by decide +kernel
theorem d7_32 : decode jdk_52_method_21_code 32 = .ok (.iinc 1 1, 3) := by decide +kernel
theorem d7_35 : decode jdk_52_method_21_code 35 = .ok (.iinc 3 1, 3) := by decide +kernel
theorem d7_38 : decode jdk_52_method_21_code 38 = .ok (.iinc 5 1, 3) := by decide +kernel
theorem d7_41 : decode jdk_52_method_21_code 41 = .ok (.goto (-38), 3) := by decide +kernel
theorem d7_44 : decode jdk_52_method_21_code 44 = .ok (.iload 4, 2) := by decide +kernel
theorem d7_46 : decode jdk_52_method_21_code 46 = .ok (.ireturn, 1) := by decide +kernel
theorem pn_java_lang_StringUTF16 : plainName "java/lang/StringUTF16" = true := by first | (simp [plainName, overriddenIn]; done) | decide +kernel
theorem ef_rm7_1 (m : MethodId) (x0 : Addr) (x2 : Addr) : entryFrame m #[(.ref x0), (.int (0 : Int32)), (.ref x2), (.int (0 : Int32)), (.int (1 : Int32))] 7 = mkF m 0 #[.val (.ref x0), .val (.int (0 : Int32)), .val (.ref x2), .val (.int (0 : Int32)), .val (.int (1 : Int32)), .unset, .unset] [] := by first | (simp [entryFrame, mkF, argsToLocals, Value.category]; done) | rfl
set_option maxRecDepth 65536 in
set_option maxHeartbeats 40000000 in
theorem rm7_1 (l : Launch) (Z : State) (a0 : Array Value) (hw : ∀ d ∈ tables_1, d.before a0 Z = true) (ws : List Jvm.Cond) (a1 a2 : Addr) (k1 k2 : ClassId) (ee0 : Int32) (h0 : Heap) (n0 : Nat) (Z0 : n0 ≤ h0.size) (V1 : Arv Z h0 a1 k1 .char (1 : Int32) [(.int ee0)] (.int (0 : Int32))) (V2 : Arv Z h0 a2 k2 .byte (1 : Int32) [(.int (0 : Int32))] (.int (0 : Int32))) (ne12 : a1 ≠ a2) (g2 : n0 ≤ a2) (hec0 : ¬ (255 : Int32) < ee0) :
    MetFree l (⟨"java/lang/StringUTF16", "compress", "([CI[BII)I"⟩ : MethodName) (head1 (Jvm.Cond.code (⟨"java/lang/StringUTF16", "compress", "([CI[BII)I"⟩ : MethodName) jdk_52_method_21_code 7 (some .int) :: ws) ({ frames := 0, cells := 0, slots := 0, locals := 0 } : Room)) (fun a U => a = #[(.ref a1), (.int (0 : Int32)), (.ref a2), (.int (0 : Int32)), (.int (1 : Int32))] ∧ Z.Warmed39 U.vm ∧ U.heap = h0) (fun _ _ _ _ _ => True) (fun _ U o U' => ∃ v L, o = .returned v ∧ Q7_1 Z a2 k2 ee0 h0 n0 v U'.heap L ∧ FrameEnd U o U' L ({ frames := 0, cells := 0, slots := 0, locals := 0 } : Room).cells ({ frames := 0, cells := 0, slots := 0, locals := 0 } : Room).slots) := by
  refine MetFree.of_bodySF (plainFor_of_name pn_java_lang_StringUTF16) hisR ?_
  intro p e s m args below meth c s₁ Bd hml0 hP hK
  obtain ⟨rfl, hZ, hh⟩ := hP
  have hx := Bd.exec
  have hby := Bd.bytes
  have hml : c.maxLocals = 7 := hml0
  have hown : s.vm.findClass "java/lang/StringUTF16" = some m.cls := findClass_of_methodNamed Bd.named
  have hnm := (name_of_methodNamed Bd.named Bd.method).1
  have X0 : Stand p l e ({ frames := 0, cells := 0, slots := 0, locals := 0 } : Room) s m #[(.ref a1), (.int (0 : Int32)), (.ref a2), (.int (0 : Int32)), (.int (1 : Int32))] below meth c s₁ [] 0 0 := Stand.of_body Bd
  have e0 : s₁.heap = h0 := by rw [← hh, Bd.state]; rfl
  have N0 := Fr.nil n0
  have KP0 : Keep h0 h0 [a2] := Keep.refl h0 _
  obtain ⟨G, hG⟩ : ∃ G : State, G = s₁.setTop (entryFrame m #[(.ref a1), (.int (0 : Int32)), (.ref a2), (.int (0 : Int32)), (.int (1 : Int32))] 7) := ⟨_, rfl⟩
  have pre0 : ∀ t, Steps p.tables e below (s₁.setTop (mkF m 0 #[.val (.ref a1), .val (.int (0 : Int32)), .val (.ref a2), .val (.int (0 : Int32)), .val (.int (1 : Int32)), .unset, .unset] [])) t → Steps p.tables e below G t := fun t k => hG ▸ castTop (ef_rm7_1 m a1 a2) k
  have K1 : ∀ t, Steps p.tables e below (s₁.setTop (mkF m 12 #[.val (.ref a1), .val (.int (0 : Int32)), .val (.ref a2), .val (.int (0 : Int32)), .val (.int (1 : Int32)), .val (.int (0 : Int32)), .unset] [(.int (0 : Int32)), (.ref a1)])) t → Steps p.tables e below G t := by
    intro t k
    refine pre0 t ?_
    show Steps p.tables e below (s₁.setTop (mkF m 0 #[.val (.ref a1), .val (.int (0 : Int32)), .val (.ref a2), .val (.int (0 : Int32)), .val (.int (1 : Int32)), .unset, .unset] [])) _
    refine XS.iconst X0.here hx rfl (hb hby d7_0) ?_
    show Steps p.tables e below (s₁.setTop (mkF m 1 #[.val (.ref a1), .val (.int (0 : Int32)), .val (.ref a2), .val (.int (0 : Int32)), .val (.int (1 : Int32)), .unset, .unset] [(.int (0 : Int32))])) _
    refine XS.istore X0.here hx rfl (hb hby d7_1) rfl (l' := #[.val (.ref a1), .val (.int (0 : Int32)), .val (.ref a2), .val (.int (0 : Int32)), .val (.int (1 : Int32)), .val (.int (0 : Int32)), .unset]) rfl ?_
    show Steps p.tables e below (s₁.setTop (mkF m 3 #[.val (.ref a1), .val (.int (0 : Int32)), .val (.ref a2), .val (.int (0 : Int32)), .val (.int (1 : Int32)), .val (.int (0 : Int32)), .unset] [])) _
    refine XS.iload X0.here hx rfl (hb hby d7_3) rfl ?_
    show Steps p.tables e below (s₁.setTop (mkF m 5 #[.val (.ref a1), .val (.int (0 : Int32)), .val (.ref a2), .val (.int (0 : Int32)), .val (.int (1 : Int32)), .val (.int (0 : Int32)), .unset] [(.int (0 : Int32))])) _
    refine XS.iload X0.here hx rfl (hb hby d7_5) rfl ?_
    show Steps p.tables e below (s₁.setTop (mkF m 7 #[.val (.ref a1), .val (.int (0 : Int32)), .val (.ref a2), .val (.int (0 : Int32)), .val (.int (1 : Int32)), .val (.int (0 : Int32)), .unset] [(.int (1 : Int32)), (.int (0 : Int32))])) _
    refine XS.icmpNo X0.here hx rfl (hb hby d7_7) rfl (tlt (by decide)).2.1 ?_
    show Steps p.tables e below (s₁.setTop (mkF m 10 #[.val (.ref a1), .val (.int (0 : Int32)), .val (.ref a2), .val (.int (0 : Int32)), .val (.int (1 : Int32)), .val (.int (0 : Int32)), .unset] [])) _
    refine XS.aloadN X0.here hx rfl (hb hby d7_10) rfl rfl ?_
    show Steps p.tables e below (s₁.setTop (mkF m 11 #[.val (.ref a1), .val (.int (0 : Int32)), .val (.ref a2), .val (.int (0 : Int32)), .val (.int (1 : Int32)), .val (.int (0 : Int32)), .unset] [(.ref a1)])) _
    refine XS.iloadN X0.here hx rfl (hb hby d7_11) rfl ?_
    show Steps p.tables e below (s₁.setTop (mkF m 12 #[.val (.ref a1), .val (.int (0 : Int32)), .val (.ref a2), .val (.int (0 : Int32)), .val (.int (1 : Int32)), .val (.int (0 : Int32)), .unset] [(.int (0 : Int32)), (.ref a1)])) _
    exact k
  obtain ⟨cl2, Ar2, qc2, S2, M2, Ha2, Ga2⟩ := id V1
  have hin2 : ¬ ((0 : Int32) < 0 ∨ cl2.slots.size ≤ ((0 : Int32)).toNatClampNeg) := inb_of S2 ⟨by decide, by decide⟩
  have hat2 : cl2.slots[((0 : Int32)).toNatClampNeg]? = some (.int ee0) := Ha2.at hin2 rfl
  have K3 : ∀ t, Steps p.tables e below (s₁.setTop (mkF m 13 #[.val (.ref a1), .val (.int (0 : Int32)), .val (.ref a2), .val (.int (0 : Int32)), .val (.int (1 : Int32)), .val (.int (0 : Int32)), .unset] [(.int ee0)])) t → Steps p.tables e below G t := fun t k => K1 t (X0.caload hx (j := (0 : Int32)) (v := (.int ee0)) (by rw [e0]; exact Ar2.1) (State.isArrayOf_alike hZ.alike Ar2.2.1) Ar2.2.2 hin2 hat2 (g := (mkF m 12 #[.val (.ref a1), .val (.int (0 : Int32)), .val (.ref a2), .val (.int (0 : Int32)), .val (.int (1 : Int32)), .val (.int (0 : Int32)), .unset] [(.int (0 : Int32)), (.ref a1)])) rfl rfl (hb hby d7_12) _ k)
  have K4 : ∀ t, Steps p.tables e below (s₁.setTop (mkF m 31 #[.val (.ref a1), .val (.int (0 : Int32)), .val (.ref a2), .val (.int (0 : Int32)), .val (.int (1 : Int32)), .val (.int (0 : Int32)), .val (.int ee0)] [(.int (ee0.toInt8.toInt32)), (.int (0 : Int32)), (.ref a2)])) t → Steps p.tables e below G t := by
    intro t k
    refine K3 t ?_
    show Steps p.tables e below (s₁.setTop (mkF m 13 #[.val (.ref a1), .val (.int (0 : Int32)), .val (.ref a2), .val (.int (0 : Int32)), .val (.int (1 : Int32)), .val (.int (0 : Int32)), .unset] [(.int ee0)])) _
    refine XS.istore X0.here hx rfl (hb hby d7_13) rfl (l' := #[.val (.ref a1), .val (.int (0 : Int32)), .val (.ref a2), .val (.int (0 : Int32)), .val (.int (1 : Int32)), .val (.int (0 : Int32)), .val (.int ee0)]) rfl ?_
    show Steps p.tables e below (s₁.setTop (mkF m 15 #[.val (.ref a1), .val (.int (0 : Int32)), .val (.ref a2), .val (.int (0 : Int32)), .val (.int (1 : Int32)), .val (.int (0 : Int32)), .val (.int ee0)] [])) _
    refine XS.iload X0.here hx rfl (hb hby d7_15) rfl ?_
    show Steps p.tables e below (s₁.setTop (mkF m 17 #[.val (.ref a1), .val (.int (0 : Int32)), .val (.ref a2), .val (.int (0 : Int32)), .val (.int (1 : Int32)), .val (.int (0 : Int32)), .val (.int ee0)] [(.int ee0)])) _
    refine XS.sipush X0.here hx rfl (hb hby d7_17) ?_
    show Steps p.tables e below (s₁.setTop (mkF m 20 #[.val (.ref a1), .val (.int (0 : Int32)), .val (.ref a2), .val (.int (0 : Int32)), .val (.int (1 : Int32)), .val (.int (0 : Int32)), .val (.int ee0)] [(.int (255 : Int32)), (.int ee0)])) _
    refine XS.icmpYes X0.here hx rfl (pc0 := 20) (pc' := 26) rfl (hb hby d7_20) rfl (flt hec0).2.2.2 (by decide) (by decide) ?_
    show Steps p.tables e below (s₁.setTop (mkF m 26 #[.val (.ref a1), .val (.int (0 : Int32)), .val (.ref a2), .val (.int (0 : Int32)), .val (.int (1 : Int32)), .val (.int (0 : Int32)), .val (.int ee0)] [])) _
    refine XS.aloadN X0.here hx rfl (hb hby d7_26) rfl rfl ?_
    show Steps p.tables e below (s₁.setTop (mkF m 27 #[.val (.ref a1), .val (.int (0 : Int32)), .val (.ref a2), .val (.int (0 : Int32)), .val (.int (1 : Int32)), .val (.int (0 : Int32)), .val (.int ee0)] [(.ref a2)])) _
    refine XS.iloadN X0.here hx rfl (hb hby d7_27) rfl ?_
    show Steps p.tables e below (s₁.setTop (mkF m 28 #[.val (.ref a1), .val (.int (0 : Int32)), .val (.ref a2), .val (.int (0 : Int32)), .val (.int (1 : Int32)), .val (.int (0 : Int32)), .val (.int ee0)] [(.int (0 : Int32)), (.ref a2)])) _
    refine XS.iload X0.here hx rfl (hb hby d7_28) rfl ?_
    show Steps p.tables e below (s₁.setTop (mkF m 30 #[.val (.ref a1), .val (.int (0 : Int32)), .val (.ref a2), .val (.int (0 : Int32)), .val (.int (1 : Int32)), .val (.int (0 : Int32)), .val (.int ee0)] [(.int ee0), (.int (0 : Int32)), (.ref a2)])) _
    refine XS.i2b X0.here hx rfl (hb hby d7_30) rfl ?_
    show Steps p.tables e below (s₁.setTop (mkF m 31 #[.val (.ref a1), .val (.int (0 : Int32)), .val (.ref a2), .val (.int (0 : Int32)), .val (.int (1 : Int32)), .val (.int (0 : Int32)), .val (.int ee0)] [(.int (ee0.toInt8.toInt32)), (.int (0 : Int32)), (.ref a2)])) _
    exact k
  obtain ⟨cl5, Ar5, qc5, S5, M5, Ha5, Ga5⟩ := id V2
  have hin5 : ¬ ((0 : Int32) < 0 ∨ cl5.slots.size ≤ ((0 : Int32)).toNatClampNeg) := inb_of S5 ⟨by decide, by decide⟩
  obtain ⟨T5, h5, X5, e5, W5, st5⟩ := stB X0 hx hZ e0 Ar5 (j := (0 : Int32)) hin5 (g := (mkF m 31 #[.val (.ref a1), .val (.int (0 : Int32)), .val (.ref a2), .val (.int (0 : Int32)), .val (.int (1 : Int32)), .val (.int (0 : Int32)), .val (.int ee0)] [(.int (ee0.toInt8.toInt32)), (.int (0 : Int32)), (.ref a2)])) rfl rfl (hb hby d7_31)
  have V5 : Arv Z h5 a2 k2 .byte (1 : Int32) [(.int ((ee0.toInt8.toInt32).toInt8.toInt32))] (.int (0 : Int32)) := Arv.set Ar5 qc5 S5 M5 Ha5 Ga5 (fits_nar_byte _) W5 0 rfl (Nat.le_of_ble_eq_true rfl)
  have K6 : ∀ t, Steps p.tables e below (T5.setTop (mkF m 32 #[.val (.ref a1), .val (.int (0 : Int32)), .val (.ref a2), .val (.int (0 : Int32)), .val (.int (1 : Int32)), .val (.int (0 : Int32)), .val (.int ee0)] [])) t → Steps p.tables e below G t := fun t k => K4 t (st5 t k)
  have f7 := V1.other W5 ne12
  have Z8 : n0 ≤ h5.size := Nat.le_trans Z0 (Keep.of_wr W5).1
  have KP9 : Keep h0 h5 [a2] := KP0.wr W5 (Or.inl (List.mem_of_getElem? (i := 0) rfl))
  have N10 := Fr.snoc X5 N0 g2
  obtain ⟨fs, hr, hrun, hended, hW, hsame⟩ := X5.leave (v := some (.int (1 : Int32))) (fun h => by rw [Bd.returns] at h; cases h)
  have KF := K6
  rw [hG] at KF
  refine ⟨_, _, KF _ ?_, hrun, hended, _, _, rfl, ?_, ⟨_, rfl⟩, hW, hsame.mono (by decide) (by decide)⟩
  · show Steps p.tables e below (T5.setTop (mkF m 32 #[.val (.ref a1), .val (.int (0 : Int32)), .val (.ref a2), .val (.int (0 : Int32)), .val (.int (1 : Int32)), .val (.int (0 : Int32)), .val (.int ee0)] [])) _
    refine XS.iinc X5.here hx rfl (hb hby d7_32) rfl (l' := #[.val (.ref a1), .val (.int (1 : Int32)), .val (.ref a2), .val (.int (0 : Int32)), .val (.int (1 : Int32)), .val (.int (0 : Int32)), .val (.int ee0)]) rfl ?_
    show Steps p.tables e below (T5.setTop (mkF m 35 #[.val (.ref a1), .val (.int (1 : Int32)), .val (.ref a2), .val (.int (0 : Int32)), .val (.int (1 : Int32)), .val (.int (0 : Int32)), .val (.int ee0)] [])) _
    refine XS.iinc X5.here hx rfl (hb hby d7_35) rfl (l' := #[.val (.ref a1), .val (.int (1 : Int32)), .val (.ref a2), .val (.int (1 : Int32)), .val (.int (1 : Int32)), .val (.int (0 : Int32)), .val (.int ee0)]) rfl ?_
    show Steps p.tables e below (T5.setTop (mkF m 38 #[.val (.ref a1), .val (.int (1 : Int32)), .val (.ref a2), .val (.int (1 : Int32)), .val (.int (1 : Int32)), .val (.int (0 : Int32)), .val (.int ee0)] [])) _
    refine XS.iinc X5.here hx rfl (hb hby d7_38) rfl (l' := #[.val (.ref a1), .val (.int (1 : Int32)), .val (.ref a2), .val (.int (1 : Int32)), .val (.int (1 : Int32)), .val (.int (1 : Int32)), .val (.int ee0)]) rfl ?_
    show Steps p.tables e below (T5.setTop (mkF m 41 #[.val (.ref a1), .val (.int (1 : Int32)), .val (.ref a2), .val (.int (1 : Int32)), .val (.int (1 : Int32)), .val (.int (1 : Int32)), .val (.int ee0)] [])) _
    refine XS.goto X5.here hx rfl (pc0 := 41) (pc' := 3) rfl (hb hby d7_41) (by decide) (by decide) ?_
    show Steps p.tables e below (T5.setTop (mkF m 3 #[.val (.ref a1), .val (.int (1 : Int32)), .val (.ref a2), .val (.int (1 : Int32)), .val (.int (1 : Int32)), .val (.int (1 : Int32)), .val (.int ee0)] [])) _
    refine XS.iload X5.here hx rfl (hb hby d7_3) rfl ?_
    show Steps p.tables e below (T5.setTop (mkF m 5 #[.val (.ref a1), .val (.int (1 : Int32)), .val (.ref a2), .val (.int (1 : Int32)), .val (.int (1 : Int32)), .val (.int (1 : Int32)), .val (.int ee0)] [(.int (1 : Int32))])) _
    refine XS.iload X5.here hx rfl (hb hby d7_5) rfl ?_
    show Steps p.tables e below (T5.setTop (mkF m 7 #[.val (.ref a1), .val (.int (1 : Int32)), .val (.ref a2), .val (.int (1 : Int32)), .val (.int (1 : Int32)), .val (.int (1 : Int32)), .val (.int ee0)] [(.int (1 : Int32)), (.int (1 : Int32))])) _
    refine XS.icmpYes X5.here hx rfl (pc0 := 7) (pc' := 44) rfl (hb hby d7_7) rfl (flt (by decide)).2.1 (by decide) (by decide) ?_
    show Steps p.tables e below (T5.setTop (mkF m 44 #[.val (.ref a1), .val (.int (1 : Int32)), .val (.ref a2), .val (.int (1 : Int32)), .val (.int (1 : Int32)), .val (.int (1 : Int32)), .val (.int ee0)] [])) _
    refine XS.iload X5.here hx rfl (hb hby d7_44) rfl ?_
    show Steps p.tables e below (T5.setTop (mkF m 46 #[.val (.ref a1), .val (.int (1 : Int32)), .val (.ref a2), .val (.int (1 : Int32)), .val (.int (1 : Int32)), .val (.int (1 : Int32)), .val (.int ee0)] [(.int (1 : Int32))])) _
    exact own_retI X5 hx Bd.returns (hb hby d7_46) hr
  · show Q7_1 Z a2 k2 ee0 h0 n0 _ T5.heap _
    rw [e5]
    exact ⟨rfl, N10, KP9, V5⟩
def Q6_1 (Z : State) (ee0 : Int32) (h0 : Heap) (n0 : Nat) (v : Option Value) (h : Heap) (L : List Loc) : Prop := ∃ (b : Addr) (k : ClassId), v = some (.ref b) ∧ Fr n0 L ∧ Keep h0 h [] ∧ h0.size ≤ b ∧ Arv Z h b k .byte (1 : Int32) [(.int (nar .byte (ee0.toInt8.toInt32)))] (.int (0 : Int32))
theorem d6_0 : decode jdk_52_method_16_code 0 = .ok (.iload_n 2, 1) := by decide +kernel
theorem d6_1 : decode jdk_52_method_16_code 1 = .ok (.newarray .byte, 2) := by decide +kernel
theorem d6_3 : decode jdk_52_method_16_code 3 = .ok (.astore_n 3, 1) := by decide +kernel
theorem d6_4 : decode jdk_52_method_16_code 4 = .ok (.aload_n 0, 1) := by decide +kernel
theorem d6_5 : decode jdk_52_method_16_code 5 = .ok (.iload_n 1, 1) := by decide +kernel
theorem d6_6 : decode jdk_52_method_16_code 6 = .ok (.aload_n 3, 1) := by decide +kernel
theorem d6_7 : decode jdk_52_method_16_code 7 = .ok (.iconst 0, 1) := by decide +kernel
theorem d6_8 : decode jdk_52_method_16_code 8 = .ok (.iload_n 2, 1) := by decide +kernel
theorem d6_9 : decode jdk_52_method_16_code 9 = .ok (.invokestatic 115, 3) := by decide +kernel
theorem d6_12 : decode jdk_52_method_16_code 12 = .ok (.istore 4, 2) := by decide +kernel
theorem d6_14 : decode jdk_52_method_16_code 14 = .ok (.iload 4, 2) := by decide +kernel
theorem d6_16 : decode jdk_52_method_16_code 16 = .ok (.iload_n 2, 1) := by decide +kernel
theorem d6_17 : decode jdk_52_method_16_code 17 = .ok (.if_icmp .eq 40, 3) := by decide +kernel
theorem d6_20 : decode jdk_52_method_16_code 20 = .ok (.aload_n 0, 1) := by decide +kernel
theorem d6_21 : decode jdk_52_method_16_code 21 = .ok (.iload_n 1, 1) := by decide +kernel
theorem d6_22 : decode jdk_52_method_16_code 22 = .ok (.iload_n 2, 1) := by decide +kernel
theorem d6_23 : decode jdk_52_method_16_code 23 = .ok (.invokestatic 119, 3) := by decide +kernel
theorem d6_26 : decode jdk_52_method_16_code 26 = .ok (.astore 5, 2) := by decide +kernel
theorem d6_28 : decode jdk_52_method_16_code 28 = .ok (.aload 5, 2) := by decide +kernel
theorem d6_30 : decode jdk_52_method_16_code 30 = .ok (.iload 4, 2) := by decide +kernel
theorem d6_32 : decode jdk_52_method_16_code 32 = .ok (.invokestatic 71, 3) := by decide +kernel
theorem d6_35 : decode jdk_52_method_16_code 35 = .ok (.sipush 255, 3) := by decide +kernel
theorem d6_38 : decode jdk_52_method_16_code 38 = .ok (.if_icmp .gt 16, 3) := by decide +kernel
theorem d6_41 : decode jdk_52_method_16_code 41 = .ok (.aload 5, 2) := by decide +kernel
theorem d6_43 : decode jdk_52_method_16_code 43 = .ok (.iconst 0, 1) := by decide +kernel
theorem d6_44 : decode jdk_52_method_16_code 44 = .ok (.aload_n 3, 1) := by decide +kernel
theorem d6_45 : decode jdk_52_method_16_code 45 = .ok (.iconst 0, 1) := by decide +kernel
theorem d6_46 : decode jdk_52_method_16_code 46 = .ok (.iload_n 2, 1) := by decide +kernel
theorem d6_47 : decode jdk_52_method_16_code 47 = .ok (.invokestatic 123, 3) := by decide +kernel
theorem d6_50 : decode jdk_52_method_16_code 50 = .ok (.iload_n 2, 1) := by decide +kernel
theorem d6_51 : decode jdk_52_method_16_code 51 = .ok (.if_icmp .eq 6, 3) := by decide +kernel
theorem d6_54 : decode jdk_52_method_16_code 54 = .ok (.aload 5, 2) := by decide +kernel
theorem d6_56 : decode jdk_52_method_16_code 56 = .ok (.areturn, 1) := by decide +kernel
theorem d6_57 : decode jdk_52_method_16_code 57 = .ok (.aload_n 3, 1) := by decide +kernel
theorem d6_58 : decode jdk_52_method_16_code 58 = .ok (.areturn, 1) := by decide +kernel
theorem pd_0 : parseMethodDescriptor "([CI[BII)I" = some ⟨[(.array .char), .int, (.array .byte), .int, .int], some .int⟩ := by decide +kernel
theorem ef_rm6_1 (m : MethodId) (x0 : Addr) : entryFrame m #[(.ref x0), (.int (0 : Int32)), (.int (1 : Int32))] 6 = mkF m 0 #[.val (.ref x0), .val (.int (0 : Int32)), .val (.int (1 : Int32)), .unset, .unset, .unset] [] := by first | (simp [entryFrame, mkF, argsToLocals, Value.category]; done) | rfl
set_option maxRecDepth 65536 in
set_option maxHeartbeats 40000000 in
theorem rm6_1 (l : Launch) (Z : State) (a0 : Array Value) (hw : ∀ d ∈ tables_1, d.before a0 Z = true) (ws : List Jvm.Cond) (a1 : Addr) (k1 : ClassId) (ee0 : Int32) (h0 : Heap) (n0 : Nat) (Z0 : n0 ≤ h0.size) (V1 : Arv Z h0 a1 k1 .char (1 : Int32) [(.int ee0)] (.int (0 : Int32))) (hec0 : ¬ (255 : Int32) < ee0) :
    MetFree l (⟨"java/lang/StringUTF16", "compress", "([CII)[B"⟩ : MethodName) (head1 (Jvm.Cond.code (⟨"java/lang/StringUTF16", "compress", "([CII)[B"⟩ : MethodName) jdk_52_method_16_code 6 (some (.array .byte)) :: ws) ({ frames := 1, cells := 1, slots := 1, locals := 18 } : Room)) (fun a U => a = #[(.ref a1), (.int (0 : Int32)), (.int (1 : Int32))] ∧ Z.Warmed39 U.vm ∧ U.heap = h0) (fun _ _ _ _ _ => True) (fun _ U o U' => ∃ v L, o = .returned v ∧ Q6_1 Z ee0 h0 n0 v U'.heap L ∧ FrameEnd U o U' L ({ frames := 1, cells := 1, slots := 1, locals := 18 } : Room).cells ({ frames := 1, cells := 1, slots := 1, locals := 18 } : Room).slots) := by
  refine MetFree.of_bodySF (plainFor_of_name pn_java_lang_StringUTF16) hisR ?_
  intro p e s m args below meth c s₁ Bd hml0 hP hK
  obtain ⟨rfl, hZ, hh⟩ := hP
  have hx := Bd.exec
  have hby := Bd.bytes
  have hml : c.maxLocals = 6 := hml0
  have hown : s.vm.findClass "java/lang/StringUTF16" = some m.cls := findClass_of_methodNamed Bd.named
  have hnm := (name_of_methodNamed Bd.named Bd.method).1
  have X0 : Stand p l e ({ frames := 1, cells := 1, slots := 1, locals := 18 } : Room) s m #[(.ref a1), (.int (0 : Int32)), (.int (1 : Int32))] below meth c s₁ [] 0 0 := Stand.of_body Bd
  have e0 : s₁.heap = h0 := by rw [← hh, Bd.state]; rfl
  have N0 := Fr.nil n0
  have KP0 : Keep h0 h0 [] := Keep.refl h0 _
  obtain ⟨G, hG⟩ : ∃ G : State, G = s₁.setTop (entryFrame m #[(.ref a1), (.int (0 : Int32)), (.int (1 : Int32))] 6) := ⟨_, rfl⟩
  have pre0 : ∀ t, Steps p.tables e below (s₁.setTop (mkF m 0 #[.val (.ref a1), .val (.int (0 : Int32)), .val (.int (1 : Int32)), .unset, .unset, .unset] [])) t → Steps p.tables e below G t := fun t k => hG ▸ castTop (ef_rm6_1 m a1) k
  have K1 : ∀ t, Steps p.tables e below (s₁.setTop (mkF m 1 #[.val (.ref a1), .val (.int (0 : Int32)), .val (.int (1 : Int32)), .unset, .unset, .unset] [(.int (1 : Int32))])) t → Steps p.tables e below G t := by
    intro t k
    refine pre0 t ?_
    show Steps p.tables e below (s₁.setTop (mkF m 0 #[.val (.ref a1), .val (.int (0 : Int32)), .val (.int (1 : Int32)), .unset, .unset, .unset] [])) _
    refine XS.iloadN X0.here hx rfl (hb hby d6_0) rfl ?_
    show Steps p.tables e below (s₁.setTop (mkF m 1 #[.val (.ref a1), .val (.int (0 : Int32)), .val (.int (1 : Int32)), .unset, .unset, .unset] [(.int (1 : Int32))])) _
    exact k
  obtain ⟨T2, h2, kn2, X2, e2, E2, A2, st2⟩ := newP X0 hx hZ (hw _ (List.mem_of_getElem? (i := 26) rfl)) e0 (g := (mkF m 1 #[.val (.ref a1), .val (.int (0 : Int32)), .val (.int (1 : Int32)), .unset, .unset, .unset] [(.int (1 : Int32))])) rfl (hb hby d6_1) rfl (by decide) (cap := 1) (by decide) (by decide) (by decide) (by decide)
  obtain ⟨b2, g2⟩ : ∃ z, z = h0.size := ⟨_, rfl⟩
  rw [← g2] at A2 st2
  have ne_a1_b2 : a1 ≠ b2 := Nat.ne_of_lt (Nat.lt_of_lt_of_le V1.lt (Nat.le_of_eq g2.symm))
  have g_b2 : n0 ≤ b2 := Nat.le_trans Z0 (Nat.le_of_eq g2.symm)
  have sz_b2 : h0.size ≤ b2 := Nat.le_trans KP0.1 (Nat.le_of_eq g2.symm)
  have f3 := V1.ext E2
  have Z4 : n0 ≤ h2.size := Nat.le_trans Z0 E2.1
  have KP5 : Keep h0 h2 [] := KP0.ext E2
  have K6 : ∀ t, Steps p.tables e below (T2.setTop (mkF m 3 #[.val (.ref a1), .val (.int (0 : Int32)), .val (.int (1 : Int32)), .unset, .unset, .unset] [(.ref b2)])) t → Steps p.tables e below G t := fun t k => K1 t (st2 t k)
  have V2 : Arv Z h2 b2 kn2 .byte (1 : Int32) [(.int (0 : Int32))] (.int (0 : Int32)) := (Arv.new A2 (by decide)).pad (pad_rep [] (.int (0 : Int32)) 1)
  have K7 : ∀ t, Steps p.tables e below (T2.setTop (mkF m 9 #[.val (.ref a1), .val (.int (0 : Int32)), .val (.int (1 : Int32)), .val (.ref b2), .unset, .unset] [(.int (1 : Int32)), (.int (0 : Int32)), (.ref b2), (.int (0 : Int32)), (.ref a1)])) t → Steps p.tables e below G t := by
    intro t k
    refine K6 t ?_
    show Steps p.tables e below (T2.setTop (mkF m 3 #[.val (.ref a1), .val (.int (0 : Int32)), .val (.int (1 : Int32)), .unset, .unset, .unset] [(.ref b2)])) _
    refine XS.astoreN X2.here hx rfl (hb hby d6_3) rfl rfl (l' := #[.val (.ref a1), .val (.int (0 : Int32)), .val (.int (1 : Int32)), .val (.ref b2), .unset, .unset]) rfl ?_
    show Steps p.tables e below (T2.setTop (mkF m 4 #[.val (.ref a1), .val (.int (0 : Int32)), .val (.int (1 : Int32)), .val (.ref b2), .unset, .unset] [])) _
    refine XS.aloadN X2.here hx rfl (hb hby d6_4) rfl rfl ?_
    show Steps p.tables e below (T2.setTop (mkF m 5 #[.val (.ref a1), .val (.int (0 : Int32)), .val (.int (1 : Int32)), .val (.ref b2), .unset, .unset] [(.ref a1)])) _
    refine XS.iloadN X2.here hx rfl (hb hby d6_5) rfl ?_
    show Steps p.tables e below (T2.setTop (mkF m 6 #[.val (.ref a1), .val (.int (0 : Int32)), .val (.int (1 : Int32)), .val (.ref b2), .unset, .unset] [(.int (0 : Int32)), (.ref a1)])) _
    refine XS.aloadN X2.here hx rfl (hb hby d6_6) rfl rfl ?_
    show Steps p.tables e below (T2.setTop (mkF m 7 #[.val (.ref a1), .val (.int (0 : Int32)), .val (.int (1 : Int32)), .val (.ref b2), .unset, .unset] [(.ref b2), (.int (0 : Int32)), (.ref a1)])) _
    refine XS.iconst X2.here hx rfl (hb hby d6_7) ?_
    show Steps p.tables e below (T2.setTop (mkF m 8 #[.val (.ref a1), .val (.int (0 : Int32)), .val (.int (1 : Int32)), .val (.ref b2), .unset, .unset] [(.int (0 : Int32)), (.ref b2), (.int (0 : Int32)), (.ref a1)])) _
    refine XS.iloadN X2.here hx rfl (hb hby d6_8) rfl ?_
    show Steps p.tables e below (T2.setTop (mkF m 9 #[.val (.ref a1), .val (.int (0 : Int32)), .val (.int (1 : Int32)), .val (.ref b2), .unset, .unset] [(.int (1 : Int32)), (.int (0 : Int32)), (.ref b2), (.int (0 : Int32)), (.ref a1)])) _
    exact k
  obtain ⟨_, _, ⟨T8, L8, kk8, nn8⟩, -, X8, ⟨Lc8, hQ8, lq8, yq8, zq8⟩, st8⟩ := Jvm.LawKit.callS X2 hx (y := (⟨"java/lang/StringUTF16", "compress", "([CI[BII)I"⟩ : MethodName)) hown (mvT hZ (hw _ (List.mem_of_getElem? (i := 27) rfl))) (mvT hZ (hw _ (List.mem_of_getElem? (i := 28) rfl))) (mvT hZ (hw _ (List.mem_of_getElem? (i := 24) rfl))) (mvT hZ (hw _ (List.mem_of_getElem? (i := 29) rfl))) (by decide) (backOf (W := 0) (rm7_1 l Z a0 hw [] a1 b2 k1 kn2 ee0 h2 n0 Z4 f3 V2 ne_a1_b2 g_b2 hec0) hZ (hw _ (List.mem_of_getElem? (i := 29) rfl)) (hw _ (List.mem_of_getElem? (i := 24) rfl)) (by decide) (by decide)) (g := (mkF m 9 #[.val (.ref a1), .val (.int (0 : Int32)), .val (.int (1 : Int32)), .val (.ref b2), .unset, .unset] [(.int (1 : Int32)), (.int (0 : Int32)), (.ref b2), (.int (0 : Int32)), (.ref a1)])) rfl (by rw [hml]; rfl) (argsL := [(.ref a1), (.int (0 : Int32)), (.ref b2), (.int (0 : Int32)), (.int (1 : Int32))]) (rest := []) (lenOf pd_0 rfl) rfl (by show 2 * 0 + _ ≤ _; exact Nat.le_of_eq rfl) (hb hby d6_9) (fun _ _ => ⟨rfl, e2, (by decide : 1 + 0 ≤ _), (by decide : 1 + 0 ≤ _)⟩)
  dsimp only [Pt.U, Pt.locs, Pt.cells, Pt.slots] at X8 lq8 yq8 zq8 st8 hQ8
  subst lq8 yq8 zq8
  obtain ⟨rfl, Nq8, K8, V8⟩ := hQ8
  have N9 := Fr.app N0 Nq8
  have f10 := f3.keep K8 (ninS ne_a1_b2 nin0)
  have Z11 : n0 ≤ T8.heap.size := Nat.le_trans Z4 K8.1
  have KP12 : Keep h0 T8.heap [] := KP5.trans K8 (allS (Or.inr sz_b2) all0)
  have K13 : ∀ t, Steps p.tables e below (T8.setTop (mkF m 12 #[.val (.ref a1), .val (.int (0 : Int32)), .val (.int (1 : Int32)), .val (.ref b2), .unset, .unset] [(.int (1 : Int32))])) t → Steps p.tables e below G t := fun t k => K7 t (st8 _ k)
  obtain ⟨fs, hr, hrun, hended, hW, hsame⟩ := X8.leave (v := some (.ref b2)) (fun h => by rw [Bd.returns] at h; cases h)
  have KF := K13
  rw [hG] at KF
  refine ⟨_, _, KF _ ?_, hrun, hended, _, _, rfl, ?_, ⟨_, rfl⟩, hW, hsame.mono (by decide) (by decide)⟩
  · show Steps p.tables e below (T8.setTop (mkF m 12 #[.val (.ref a1), .val (.int (0 : Int32)), .val (.int (1 : Int32)), .val (.ref b2), .unset, .unset] [(.int (1 : Int32))])) _
    refine XS.istore X8.here hx rfl (hb hby d6_12) rfl (l' := #[.val (.ref a1), .val (.int (0 : Int32)), .val (.int (1 : Int32)), .val (.ref b2), .val (.int (1 : Int32)), .unset]) rfl ?_
    show Steps p.tables e below (T8.setTop (mkF m 14 #[.val (.ref a1), .val (.int (0 : Int32)), .val (.int (1 : Int32)), .val (.ref b2), .val (.int (1 : Int32)), .unset] [])) _
    refine XS.iload X8.here hx rfl (hb hby d6_14) rfl ?_
    show Steps p.tables e below (T8.setTop (mkF m 16 #[.val (.ref a1), .val (.int (0 : Int32)), .val (.int (1 : Int32)), .val (.ref b2), .val (.int (1 : Int32)), .unset] [(.int (1 : Int32))])) _
    refine XS.iloadN X8.here hx rfl (hb hby d6_16) rfl ?_
    show Steps p.tables e below (T8.setTop (mkF m 17 #[.val (.ref a1), .val (.int (0 : Int32)), .val (.int (1 : Int32)), .val (.ref b2), .val (.int (1 : Int32)), .unset] [(.int (1 : Int32)), (.int (1 : Int32))])) _
    refine XS.icmpYes X8.here hx rfl (pc0 := 17) (pc' := 57) rfl (hb hby d6_17) rfl (teq (by decide)).1 (by decide) (by decide) ?_
    show Steps p.tables e below (T8.setTop (mkF m 57 #[.val (.ref a1), .val (.int (0 : Int32)), .val (.int (1 : Int32)), .val (.ref b2), .val (.int (1 : Int32)), .unset] [])) _
    refine XS.aloadN X8.here hx rfl (hb hby d6_57) rfl rfl ?_
    show Steps p.tables e below (T8.setTop (mkF m 58 #[.val (.ref a1), .val (.int (0 : Int32)), .val (.int (1 : Int32)), .val (.ref b2), .val (.int (1 : Int32)), .unset] [(.ref b2)])) _
    exact own_retA X8 hx Bd.returns rfl rfl rfl (hb hby d6_58) hr
  · show Q6_1 Z ee0 h0 n0 _ T8.heap _
    exact ⟨_, _, rfl, N9, KP12, sz_b2, V8⟩
def Q8_1 (h0 : Heap) (n0 : Nat) (v : Option Value) (h : Heap) (L : List Loc) : Prop := v = some (.int (0 : Int32)) ∧ Fr n0 L ∧ h = h0
theorem d8_0 : decode jdk_52_method_15_code 0 = .ok (.iload_n 1, 1) := by decide +kernel
theorem d8_1 : decode jdk_52_method_15_code 1 = .ok (.aload_n 0, 1) := by decide +kernel
theorem d8_2 : decode jdk_52_method_15_code 2 = .ok (.arraylength, 1) := by decide +kernel
theorem d8_3 : decode jdk_52_method_15_code 3 = .ok (.isub, 1) := by decide +kernel
theorem d8_4 : decode jdk_52_method_15_code 4 = .ok (.bipush 31, 2) := by decide +kernel
theorem d8_6 : decode jdk_52_method_15_code 6 = .ok (.iushr, 1) := by decide +kernel
theorem d8_7 : decode jdk_52_method_15_code 7 = .ok (.i2b, 1) := by decide +kernel
theorem d8_8 : decode jdk_52_method_15_code 8 = .ok (.ireturn, 1) := by decide +kernel
theorem ef_rm8_1 (m : MethodId) (x0 : Addr) : entryFrame m #[(.ref x0), (.int (1 : Int32))] 2 = mkF m 0 #[.val (.ref x0), .val (.int (1 : Int32))] [] := by first | (simp [entryFrame, mkF, argsToLocals, Value.category]; done) | rfl
set_option maxRecDepth 65536 in
set_option maxHeartbeats 40000000 in
theorem rm8_1 (l : Launch) (Z : State) (a0 : Array Value) (hw : ∀ d ∈ tables_1, d.before a0 Z = true) (ws : List Jvm.Cond) (a1 : Addr) (k1 : ClassId) (vs : List Value) (h0 : Heap) (n0 : Nat) (Z0 : n0 ≤ h0.size) (V1 : Arv Z h0 a1 k1 .byte (1 : Int32) vs (.int (0 : Int32))) :
    MetFree l (⟨"java/lang/StringUTF16", "coderFromArrayLen", "([BI)B"⟩ : MethodName) (head1 (Jvm.Cond.code (⟨"java/lang/StringUTF16", "coderFromArrayLen", "([BI)B"⟩ : MethodName) jdk_52_method_15_code 2 (some .byte) :: ws) ({ frames := 0, cells := 0, slots := 0, locals := 0 } : Room)) (fun a U => a = #[(.ref a1), (.int (1 : Int32))] ∧ Z.Warmed39 U.vm ∧ U.heap = h0) (fun _ _ _ _ _ => True) (fun _ U o U' => ∃ v L, o = .returned v ∧ Q8_1 h0 n0 v U'.heap L ∧ FrameEnd U o U' L ({ frames := 0, cells := 0, slots := 0, locals := 0 } : Room).cells ({ frames := 0, cells := 0, slots := 0, locals := 0 } : Room).slots) := by
  refine MetFree.of_bodySF (plainFor_of_name pn_java_lang_StringUTF16) hisR ?_
  intro p e s m args below meth c s₁ Bd hml0 hP hK
  obtain ⟨rfl, hZ, hh⟩ := hP
  have hx := Bd.exec
  have hby := Bd.bytes
  have hml : c.maxLocals = 2 := hml0
  have hown : s.vm.findClass "java/lang/StringUTF16" = some m.cls := findClass_of_methodNamed Bd.named
  have hnm := (name_of_methodNamed Bd.named Bd.method).1
  have X0 : Stand p l e ({ frames := 0, cells := 0, slots := 0, locals := 0 } : Room) s m #[(.ref a1), (.int (1 : Int32))] below meth c s₁ [] 0 0 := Stand.of_body Bd
  have e0 : s₁.heap = h0 := by rw [← hh, Bd.state]; rfl
  have N0 := Fr.nil n0
  have KP0 : Keep h0 h0 [] := Keep.refl h0 _
  obtain ⟨G, hG⟩ : ∃ G : State, G = s₁.setTop (entryFrame m #[(.ref a1), (.int (1 : Int32))] 2) := ⟨_, rfl⟩
  have pre0 : ∀ t, Steps p.tables e below (s₁.setTop (mkF m 0 #[.val (.ref a1), .val (.int (1 : Int32))] [])) t → Steps p.tables e below G t := fun t k => hG ▸ castTop (ef_rm8_1 m a1) k
  have K1 : ∀ t, Steps p.tables e below (s₁.setTop (mkF m 2 #[.val (.ref a1), .val (.int (1 : Int32))] [(.ref a1), (.int (1 : Int32))])) t → Steps p.tables e below G t := by
    intro t k
    refine pre0 t ?_
    show Steps p.tables e below (s₁.setTop (mkF m 0 #[.val (.ref a1), .val (.int (1 : Int32))] [])) _
    refine XS.iloadN X0.here hx rfl (hb hby d8_0) rfl ?_
    show Steps p.tables e below (s₁.setTop (mkF m 1 #[.val (.ref a1), .val (.int (1 : Int32))] [(.int (1 : Int32))])) _
    refine XS.aloadN X0.here hx rfl (hb hby d8_1) rfl rfl ?_
    show Steps p.tables e below (s₁.setTop (mkF m 2 #[.val (.ref a1), .val (.int (1 : Int32))] [(.ref a1), (.int (1 : Int32))])) _
    exact k
  obtain ⟨cl2, Ar2, -, S2, M2, -, -⟩ := id V1
  have K3 : ∀ t, Steps p.tables e below (s₁.setTop (mkF m 3 #[.val (.ref a1), .val (.int (1 : Int32))] [(.int (1 : Int32)), (.int (1 : Int32))])) t → Steps p.tables e below G t := by
    intro t k
    refine K1 t ?_
    refine X0.arraylength hx (by rw [e0]; exact Ar2.1) (State.isArrayOf_alike hZ.alike Ar2.2.1) (g := (mkF m 2 #[.val (.ref a1), .val (.int (1 : Int32))] [(.ref a1), (.int (1 : Int32))])) rfl rfl (hb hby d8_2) _ ?_
    rw [len_of S2 M2]
    exact k
  obtain ⟨fs, hr, hrun, hended, hW, hsame⟩ := X0.leave (v := some (.int (((((0 : Int32).toUInt32 >>> ((31 : Int32) &&& 31).toUInt32).toInt32).toInt8.toInt32).toInt8.toInt32))) (fun h => by rw [Bd.returns] at h; cases h)
  have KF := K3
  rw [hG] at KF
  refine ⟨_, _, KF _ ?_, hrun, hended, _, _, rfl, ?_, ⟨_, rfl⟩, hW, hsame.mono (by decide) (by decide)⟩
  · show Steps p.tables e below (s₁.setTop (mkF m 3 #[.val (.ref a1), .val (.int (1 : Int32))] [(.int (1 : Int32)), (.int (1 : Int32))])) _
    refine XS.isub X0.here hx rfl (hb hby d8_3) rfl ?_
    show Steps p.tables e below (s₁.setTop (mkF m 4 #[.val (.ref a1), .val (.int (1 : Int32))] [(.int (0 : Int32))])) _
    refine XS.bipush X0.here hx rfl (hb hby d8_4) ?_
    show Steps p.tables e below (s₁.setTop (mkF m 6 #[.val (.ref a1), .val (.int (1 : Int32))] [(.int (31 : Int32)), (.int (0 : Int32))])) _
    refine XS.iushr X0.here hx rfl (hb hby d8_6) rfl ?_
    show Steps p.tables e below (s₁.setTop (mkF m 7 #[.val (.ref a1), .val (.int (1 : Int32))] [(.int (((0 : Int32).toUInt32 >>> ((31 : Int32) &&& 31).toUInt32).toInt32))])) _
    refine XS.i2b X0.here hx rfl (hb hby d8_7) rfl ?_
    show Steps p.tables e below (s₁.setTop (mkF m 8 #[.val (.ref a1), .val (.int (1 : Int32))] [(.int ((((0 : Int32).toUInt32 >>> ((31 : Int32) &&& 31).toUInt32).toInt32).toInt8.toInt32))])) _
    exact retN X0 hx (t := .byte) Bd.returns (by simp) (hb hby d8_8) hr
  · show Q8_1 h0 n0 _ s₁.heap _
    rw [e0]
    exact ⟨rfl, N0, rfl⟩
def Q4_1 (Z : State) (a1 : Addr) (ee0 : Int32) (h0 : Heap) (n0 : Nat) (v : Option Value) (h : Heap) (L : List Loc) : Prop := ∃ (b : Addr) (k : ClassId), v = none ∧ Fr n0 L ∧ Keep h0 h [a1] ∧ h0.size ≤ b ∧ Exa Z h a1 "java/lang/String" ∧ Fld Z h a1 "java/lang/String" "value" "[B" (.ref b) ∧ Fld Z h a1 "java/lang/String" "coder" "B" (.int (0 : Int32)) ∧ Arv Z h b k .byte (1 : Int32) [(.int (nar .byte (ee0.toInt8.toInt32)))] (.int (0 : Int32))
theorem d4_0 : decode jdk_42_method_149_code 0 = .ok (.aload_n 0, 1) := by decide +kernel
theorem d4_1 : decode jdk_42_method_149_code 1 = .ok (.invokespecial 1, 3) := by decide +kernel
theorem d4_4 : decode jdk_42_method_149_code 4 = .ok (.iload_n 3, 1) := by decide +kernel
theorem d4_5 : decode jdk_42_method_149_code 5 = .ok (.ifCond .ne 22, 3) := by decide +kernel
theorem d4_8 : decode jdk_42_method_149_code 8 = .ok (.aload_n 0, 1) := by decide +kernel
theorem d4_9 : decode jdk_42_method_149_code 9 = .ok (.ldc 7, 2) := by decide +kernel
theorem d4_11 : decode jdk_42_method_149_code 11 = .ok (.getfield 9, 3) := by decide +kernel
theorem d4_14 : decode jdk_42_method_149_code 14 = .ok (.putfield 9, 3) := by decide +kernel
theorem d4_17 : decode jdk_42_method_149_code 17 = .ok (.aload_n 0, 1) := by decide +kernel
theorem d4_18 : decode jdk_42_method_149_code 18 = .ok (.ldc 7, 2) := by decide +kernel
theorem d4_20 : decode jdk_42_method_149_code 20 = .ok (.getfield 15, 3) := by decide +kernel
theorem d4_23 : decode jdk_42_method_149_code 23 = .ok (.putfield 15, 3) := by decide +kernel
theorem d4_26 : decode jdk_42_method_149_code 26 = .ok (.return_, 1) := by decide +kernel
theorem d4_27 : decode jdk_42_method_149_code 27 = .ok (.getstatic 38, 3) := by decide +kernel
theorem d4_30 : decode jdk_42_method_149_code 30 = .ok (.ifCond .eq 28, 3) := by decide +kernel
theorem d4_33 : decode jdk_42_method_149_code 33 = .ok (.aload_n 1, 1) := by decide +kernel
theorem d4_34 : decode jdk_42_method_149_code 34 = .ok (.iload_n 2, 1) := by decide +kernel
theorem d4_35 : decode jdk_42_method_149_code 35 = .ok (.iload_n 3, 1) := by decide +kernel
theorem d4_36 : decode jdk_42_method_149_code 36 = .ok (.invokestatic 177, 3) := by decide +kernel
theorem d4_39 : decode jdk_42_method_149_code 39 = .ok (.astore 5, 2) := by decide +kernel
theorem d4_41 : decode jdk_42_method_149_code 41 = .ok (.aload_n 0, 1) := by decide +kernel
theorem d4_42 : decode jdk_42_method_149_code 42 = .ok (.aload 5, 2) := by decide +kernel
theorem d4_44 : decode jdk_42_method_149_code 44 = .ok (.iload_n 3, 1) := by decide +kernel
theorem d4_45 : decode jdk_42_method_149_code 45 = .ok (.invokestatic 47, 3) := by decide +kernel
theorem d4_48 : decode jdk_42_method_149_code 48 = .ok (.putfield 15, 3) := by decide +kernel
theorem d4_51 : decode jdk_42_method_149_code 51 = .ok (.aload_n 0, 1) := by decide +kernel
theorem d4_52 : decode jdk_42_method_149_code 52 = .ok (.aload 5, 2) := by decide +kernel
theorem d4_54 : decode jdk_42_method_149_code 54 = .ok (.putfield 9, 3) := by decide +kernel
theorem d4_57 : decode jdk_42_method_149_code 57 = .ok (.return_, 1) := by decide +kernel
theorem d4_58 : decode jdk_42_method_149_code 58 = .ok (.aload_n 0, 1) := by decide +kernel
theorem d4_59 : decode jdk_42_method_149_code 59 = .ok (.iconst 1, 1) := by decide +kernel
theorem d4_60 : decode jdk_42_method_149_code 60 = .ok (.putfield 15, 3) := by decide +kernel
theorem d4_63 : decode jdk_42_method_149_code 63 = .ok (.aload_n 0, 1) := by decide +kernel
theorem d4_64 : decode jdk_42_method_149_code 64 = .ok (.aload_n 1, 1) := by decide +kernel
theorem d4_65 : decode jdk_42_method_149_code 65 = .ok (.iload_n 2, 1) := by decide +kernel
theorem d4_66 : decode jdk_42_method_149_code 66 = .ok (.iload_n 3, 1) := by decide +kernel
theorem d4_67 : decode jdk_42_method_149_code 67 = .ok (.invokestatic 180, 3) := by decide +kernel
theorem d4_70 : decode jdk_42_method_149_code 70 = .ok (.putfield 9, 3) := by decide +kernel
theorem d4_73 : decode jdk_42_method_149_code 73 = .ok (.return_, 1) := by decide +kernel
theorem pn_java_lang_String : plainName "java/lang/String" = true := by first | (simp [plainName, overriddenIn]; done) | decide +kernel
theorem pd_1 : parseMethodDescriptor "([CII)[B" = some ⟨[(.array .char), .int, .int], some (.array .byte)⟩ := by decide +kernel
theorem pd_2 : parseMethodDescriptor "([BI)B" = some ⟨[(.array .byte), .int], some .byte⟩ := by decide +kernel
theorem ef_rm4_1 (m : MethodId) (x0 : Addr) (x1 : Addr) : entryFrame m #[(.ref x0), (.ref x1), (.int (0 : Int32)), (.int (1 : Int32)), .null] 6 = mkF m 0 #[.val (.ref x0), .val (.ref x1), .val (.int (0 : Int32)), .val (.int (1 : Int32)), .val .null, .unset] [] := by first | (simp [entryFrame, mkF, argsToLocals, Value.category]; done) | rfl
set_option maxRecDepth 65536 in
set_option maxHeartbeats 40000000 in
theorem rm4_1 (l : Launch) (Z : State) (a0 : Array Value) (hw : ∀ d ∈ tables_1, d.before a0 Z = true) (ws : List Jvm.Cond) (a1 a2 : Addr) (k2 : ClassId) (cs : Int32) (ee0 : Int32) (h0 : Heap) (n0 : Nat) (Z0 : n0 ≤ h0.size) (E1 : Exa Z h0 a1 "java/lang/String") (F1 : Fld Z h0 a1 "java/lang/String" "value" "[B" .null) (F2 : Fld Z h0 a1 "java/lang/String" "coder" "B" (.int (0 : Int32))) (V2 : Arv Z h0 a2 k2 .char (1 : Int32) [(.int ee0)] (.int (0 : Int32))) (g1 : n0 ≤ a1) (SC : Sta Z Z.heap "java/lang/String" "COMPACT_STRINGS" "Z" (.int cs)) (hcs : ¬ cs = 0) (O0 : Old Z n0 h0) (hec0 : ¬ (255 : Int32) < ee0) :
    MetFree l (⟨"java/lang/String", "<init>", "([CIILjava/lang/Void;)V"⟩ : MethodName) (head1 (Jvm.Cond.code (⟨"java/lang/String", "<init>", "([CIILjava/lang/Void;)V"⟩ : MethodName) jdk_42_method_149_code 6 none :: ws) ({ frames := 2, cells := 1, slots := 1, locals := 35 } : Room)) (fun a U => a = #[(.ref a1), (.ref a2), (.int (0 : Int32)), (.int (1 : Int32)), .null] ∧ Z.Warmed39 U.vm ∧ U.heap = h0) (fun _ _ _ _ _ => True) (fun _ U o U' => ∃ v L, o = .returned v ∧ Q4_1 Z a1 ee0 h0 n0 v U'.heap L ∧ FrameEnd U o U' L ({ frames := 2, cells := 1, slots := 1, locals := 35 } : Room).cells ({ frames := 2, cells := 1, slots := 1, locals := 35 } : Room).slots) := by
  refine MetFree.of_bodySF (plainFor_of_name pn_java_lang_String) hisR ?_
  intro p e s m args below meth c s₁ Bd hml0 hP hK
  obtain ⟨rfl, hZ, hh⟩ := hP
  have hx := Bd.exec
  have hby := Bd.bytes
  have hml : c.maxLocals = 6 := hml0
  have hown : s.vm.findClass "java/lang/String" = some m.cls := findClass_of_methodNamed Bd.named
  have hnm := (name_of_methodNamed Bd.named Bd.method).1
  have X0 : Stand p l e ({ frames := 2, cells := 1, slots := 1, locals := 35 } : Room) s m #[(.ref a1), (.ref a2), (.int (0 : Int32)), (.int (1 : Int32)), .null] below meth c s₁ [] 0 0 := Stand.of_body Bd
  have e0 : s₁.heap = h0 := by rw [← hh, Bd.state]; rfl
  have N0 := Fr.nil n0
  have KP0 : Keep h0 h0 [a1] := Keep.refl h0 _
  obtain ⟨G, hG⟩ : ∃ G : State, G = s₁.setTop (entryFrame m #[(.ref a1), (.ref a2), (.int (0 : Int32)), (.int (1 : Int32)), .null] 6) := ⟨_, rfl⟩
  have pre0 : ∀ t, Steps p.tables e below (s₁.setTop (mkF m 0 #[.val (.ref a1), .val (.ref a2), .val (.int (0 : Int32)), .val (.int (1 : Int32)), .val .null, .unset] [])) t → Steps p.tables e below G t := fun t k => hG ▸ castTop (ef_rm4_1 m a1 a2) k
  have ne12 : a1 ≠ a2 := by obtain ⟨cz, Az, -⟩ := V2; exact ne_arr E1 (hw _ (List.mem_of_getElem? (i := 8) rfl)) Az
  have K1 : ∀ t, Steps p.tables e below (s₁.setTop (mkF m 1 #[.val (.ref a1), .val (.ref a2), .val (.int (0 : Int32)), .val (.int (1 : Int32)), .val .null, .unset] [(.ref a1)])) t → Steps p.tables e below G t := by
    intro t k
    refine pre0 t ?_
    show Steps p.tables e below (s₁.setTop (mkF m 0 #[.val (.ref a1), .val (.ref a2), .val (.int (0 : Int32)), .val (.int (1 : Int32)), .val .null, .unset] [])) _
    refine XS.aloadN X0.here hx rfl (hb hby d4_0) rfl rfl ?_
    show Steps p.tables e below (s₁.setTop (mkF m 1 #[.val (.ref a1), .val (.ref a2), .val (.int (0 : Int32)), .val (.int (1 : Int32)), .val .null, .unset] [(.ref a1)])) _
    exact k
  obtain ⟨T2, X2, e2, st2⟩ := initO X0 hx hZ hown (hw _ (List.mem_of_getElem? (i := 18) rfl)) (hw _ (List.mem_of_getElem? (i := 19) rfl)) (hw _ (List.mem_of_getElem? (i := 20) rfl)) e0 (g := (mkF m 1 #[.val (.ref a1), .val (.ref a2), .val (.int (0 : Int32)), .val (.int (1 : Int32)), .val .null, .unset] [(.ref a1)])) rfl (by rw [hml]; rfl) rfl (hb hby d4_1) (by decide) (W := 0) (by show 2 * 0 + _ ≤ _; exact Nat.le_of_eq rfl) (by decide)
  have K3 : ∀ t, Steps p.tables e below (T2.setTop (mkF m 4 #[.val (.ref a1), .val (.ref a2), .val (.int (0 : Int32)), .val (.int (1 : Int32)), .val .null, .unset] [])) t → Steps p.tables e below G t := fun t k => K1 t (st2 t k)
  have K4 : ∀ t, Steps p.tables e below (T2.setTop (mkF m 27 #[.val (.ref a1), .val (.ref a2), .val (.int (0 : Int32)), .val (.int (1 : Int32)), .val .null, .unset] [])) t → Steps p.tables e below G t := by
    intro t k
    refine K3 t ?_
    show Steps p.tables e below (T2.setTop (mkF m 4 #[.val (.ref a1), .val (.ref a2), .val (.int (0 : Int32)), .val (.int (1 : Int32)), .val .null, .unset] [])) _
    refine XS.iloadN X2.here hx rfl (hb hby d4_4) rfl ?_
    show Steps p.tables e below (T2.setTop (mkF m 5 #[.val (.ref a1), .val (.ref a2), .val (.int (0 : Int32)), .val (.int (1 : Int32)), .val .null, .unset] [(.int (1 : Int32))])) _
    refine XS.ifYes X2.here hx rfl (pc0 := 5) (pc' := 27) rfl (hb hby d4_5) rfl ((if0 _ _).trans (feq (by decide)).2) (by decide) (by decide) ?_
    show Steps p.tables e below (T2.setTop (mkF m 27 #[.val (.ref a1), .val (.ref a2), .val (.int (0 : Int32)), .val (.int (1 : Int32)), .val .null, .unset] [])) _
    exact k
  obtain ⟨T5, X5, e5, st5⟩ := getS2 X2 hx hZ hown (host := "") (Or.inl (hw _ (List.mem_of_getElem? (i := 21) rfl))) Via.refl e2 (Sta.ext O0.2 SC) (g := (mkF m 27 #[.val (.ref a1), .val (.ref a2), .val (.int (0 : Int32)), .val (.int (1 : Int32)), .val .null, .unset] [])) rfl (hb hby d4_27)
  have K6 : ∀ t, Steps p.tables e below (T5.setTop (mkF m 30 #[.val (.ref a1), .val (.ref a2), .val (.int (0 : Int32)), .val (.int (1 : Int32)), .val .null, .unset] [(.int cs)])) t → Steps p.tables e below G t := fun t k => K4 t (st5 t k)
  have K7 : ∀ t, Steps p.tables e below (T5.setTop (mkF m 36 #[.val (.ref a1), .val (.ref a2), .val (.int (0 : Int32)), .val (.int (1 : Int32)), .val .null, .unset] [(.int (1 : Int32)), (.int (0 : Int32)), (.ref a2)])) t → Steps p.tables e below G t := by
    intro t k
    refine K6 t ?_
    show Steps p.tables e below (T5.setTop (mkF m 30 #[.val (.ref a1), .val (.ref a2), .val (.int (0 : Int32)), .val (.int (1 : Int32)), .val .null, .unset] [(.int cs)])) _
    refine XS.ifNo X5.here hx rfl (hb hby d4_30) rfl ((if0 _ _).trans (feq hcs).1) ?_
    show Steps p.tables e below (T5.setTop (mkF m 33 #[.val (.ref a1), .val (.ref a2), .val (.int (0 : Int32)), .val (.int (1 : Int32)), .val .null, .unset] [])) _
    refine XS.aloadN X5.here hx rfl (hb hby d4_33) rfl rfl ?_
    show Steps p.tables e below (T5.setTop (mkF m 34 #[.val (.ref a1), .val (.ref a2), .val (.int (0 : Int32)), .val (.int (1 : Int32)), .val .null, .unset] [(.ref a2)])) _
    refine XS.iloadN X5.here hx rfl (hb hby d4_34) rfl ?_
    show Steps p.tables e below (T5.setTop (mkF m 35 #[.val (.ref a1), .val (.ref a2), .val (.int (0 : Int32)), .val (.int (1 : Int32)), .val .null, .unset] [(.int (0 : Int32)), (.ref a2)])) _
    refine XS.iloadN X5.here hx rfl (hb hby d4_35) rfl ?_
    show Steps p.tables e below (T5.setTop (mkF m 36 #[.val (.ref a1), .val (.ref a2), .val (.int (0 : Int32)), .val (.int (1 : Int32)), .val .null, .unset] [(.int (1 : Int32)), (.int (0 : Int32)), (.ref a2)])) _
    exact k
  obtain ⟨_, _, ⟨T8, L8, kk8, nn8⟩, -, X8, ⟨Lc8, hQ8, lq8, yq8, zq8⟩, st8⟩ := Jvm.LawKit.callS X5 hx (y := (⟨"java/lang/StringUTF16", "compress", "([CII)[B"⟩ : MethodName)) hown (mvT hZ (hw _ (List.mem_of_getElem? (i := 22) rfl))) (mvT hZ (hw _ (List.mem_of_getElem? (i := 23) rfl))) (mvT hZ (hw _ (List.mem_of_getElem? (i := 24) rfl))) (mvT hZ (hw _ (List.mem_of_getElem? (i := 25) rfl))) (by decide) (backOf (W := 0) (rm6_1 l Z a0 hw [] a2 k2 ee0 h0 n0 Z0 V2 hec0) hZ (hw _ (List.mem_of_getElem? (i := 25) rfl)) (hw _ (List.mem_of_getElem? (i := 24) rfl)) (by decide) (by decide)) (g := (mkF m 36 #[.val (.ref a1), .val (.ref a2), .val (.int (0 : Int32)), .val (.int (1 : Int32)), .val .null, .unset] [(.int (1 : Int32)), (.int (0 : Int32)), (.ref a2)])) rfl (by rw [hml]; rfl) (argsL := [(.ref a2), (.int (0 : Int32)), (.int (1 : Int32))]) (rest := []) (lenOf pd_1 rfl) rfl (by show 2 * 0 + _ ≤ _; exact Nat.le_of_eq rfl) (hb hby d4_36) (fun _ _ => ⟨rfl, e5, (by decide : 0 + 1 ≤ _), (by decide : 0 + 1 ≤ _)⟩)
  dsimp only [Pt.U, Pt.locs, Pt.cells, Pt.slots] at X8 lq8 yq8 zq8 st8 hQ8
  subst lq8 yq8 zq8
  obtain ⟨b8, kb8, rfl, Nq8, K8, sz8, V8⟩ := hQ8
  have N9 := Fr.app N0 Nq8
  have ne_a1_b8 : a1 ≠ b8 := Nat.ne_of_lt (Nat.lt_of_lt_of_le E1.lt sz8)
  have ne_a2_b8 : a2 ≠ b8 := Nat.ne_of_lt (Nat.lt_of_lt_of_le V2.lt sz8)
  have g_b8 : n0 ≤ b8 := Nat.le_trans Z0 sz8
  have sz_b8 : h0.size ≤ b8 := Nat.le_trans KP0.1 sz8
  have f10 := E1.keep K8
  have f11 := F1.keep K8 nin0
  have f12 := F2.keep K8 nin0
  have f13 := V2.keep K8 nin0
  have f14 := O0.keep K8 all0
  have Z15 : n0 ≤ T8.heap.size := Nat.le_trans Z0 K8.1
  have KP16 : Keep h0 T8.heap [a1] := KP0.trans K8 all0
  have K17 : ∀ t, Steps p.tables e below (T8.setTop (mkF m 39 #[.val (.ref a1), .val (.ref a2), .val (.int (0 : Int32)), .val (.int (1 : Int32)), .val .null, .unset] [(.ref b8)])) t → Steps p.tables e below G t := fun t k => K7 t (st8 _ k)
  have K18 : ∀ t, Steps p.tables e below (T8.setTop (mkF m 45 #[.val (.ref a1), .val (.ref a2), .val (.int (0 : Int32)), .val (.int (1 : Int32)), .val .null, .val (.ref b8)] [(.int (1 : Int32)), (.ref b8), (.ref a1)])) t → Steps p.tables e below G t := by
    intro t k
    refine K17 t ?_
    show Steps p.tables e below (T8.setTop (mkF m 39 #[.val (.ref a1), .val (.ref a2), .val (.int (0 : Int32)), .val (.int (1 : Int32)), .val .null, .unset] [(.ref b8)])) _
    refine XS.astore X8.here hx rfl (hb hby d4_39) rfl rfl (l' := #[.val (.ref a1), .val (.ref a2), .val (.int (0 : Int32)), .val (.int (1 : Int32)), .val .null, .val (.ref b8)]) rfl ?_
    show Steps p.tables e below (T8.setTop (mkF m 41 #[.val (.ref a1), .val (.ref a2), .val (.int (0 : Int32)), .val (.int (1 : Int32)), .val .null, .val (.ref b8)] [])) _
    refine XS.aloadN X8.here hx rfl (hb hby d4_41) rfl rfl ?_
    show Steps p.tables e below (T8.setTop (mkF m 42 #[.val (.ref a1), .val (.ref a2), .val (.int (0 : Int32)), .val (.int (1 : Int32)), .val .null, .val (.ref b8)] [(.ref a1)])) _
    refine XS.aload X8.here hx rfl (hb hby d4_42) rfl rfl ?_
    show Steps p.tables e below (T8.setTop (mkF m 44 #[.val (.ref a1), .val (.ref a2), .val (.int (0 : Int32)), .val (.int (1 : Int32)), .val .null, .val (.ref b8)] [(.ref b8), (.ref a1)])) _
    refine XS.iloadN X8.here hx rfl (hb hby d4_44) rfl ?_
    show Steps p.tables e below (T8.setTop (mkF m 45 #[.val (.ref a1), .val (.ref a2), .val (.int (0 : Int32)), .val (.int (1 : Int32)), .val .null, .val (.ref b8)] [(.int (1 : Int32)), (.ref b8), (.ref a1)])) _
    exact k
  obtain ⟨_, _, ⟨T19, L19, kk19, nn19⟩, -, X19, ⟨Lc19, hQ19, lq19, yq19, zq19⟩, st19⟩ := Jvm.LawKit.callS X8 hx (y := (⟨"java/lang/StringUTF16", "coderFromArrayLen", "([BI)B"⟩ : MethodName)) hown (mvT hZ (hw _ (List.mem_of_getElem? (i := 30) rfl))) (mvT hZ (hw _ (List.mem_of_getElem? (i := 31) rfl))) (mvT hZ (hw _ (List.mem_of_getElem? (i := 24) rfl))) (mvT hZ (hw _ (List.mem_of_getElem? (i := 32) rfl))) (by decide) (backOf (W := 1) (rm8_1 l Z a0 hw [] b8 kb8 [(.int (nar .byte (ee0.toInt8.toInt32)))] T8.heap n0 Z15 V8) hZ (hw _ (List.mem_of_getElem? (i := 32) rfl)) (hw _ (List.mem_of_getElem? (i := 24) rfl)) (by decide) (by decide)) (g := (mkF m 45 #[.val (.ref a1), .val (.ref a2), .val (.int (0 : Int32)), .val (.int (1 : Int32)), .val .null, .val (.ref b8)] [(.int (1 : Int32)), (.ref b8), (.ref a1)])) rfl (by rw [hml]; rfl) (argsL := [(.ref b8), (.int (1 : Int32))]) (rest := [(.ref a1)]) (lenOf pd_2 rfl) rfl (by show 2 * 0 + _ ≤ _; exact Nat.le_of_eq rfl) (hb hby d4_45) (fun _ _ => ⟨rfl, rfl, (by decide : 1 + 0 ≤ _), (by decide : 1 + 0 ≤ _)⟩)
  dsimp only [Pt.U, Pt.locs, Pt.cells, Pt.slots] at X19 lq19 yq19 zq19 st19 hQ19
  subst lq19 yq19 zq19
  obtain ⟨rfl, Nq19, e19⟩ := hQ19
  have N20 := Fr.app N9 Nq19
  have K21 : ∀ t, Steps p.tables e below (T19.setTop (mkF m 48 #[.val (.ref a1), .val (.ref a2), .val (.int (0 : Int32)), .val (.int (1 : Int32)), .val .null, .val (.ref b8)] [(.int (0 : Int32)), (.ref a1)])) t → Steps p.tables e below G t := fun t k => K18 t (st19 _ k)
  obtain ⟨T22, h22, X22, e22, W22, st22⟩ := putFN X19 hx hZ hown (hw _ (List.mem_of_getElem? (i := 33) rfl)) Via.refl e19 f12 f10 (Or.inr ⟨(hw _ (List.mem_of_getElem? (i := 34) rfl)), rfl, hnm⟩) (hw _ (List.mem_of_getElem? (i := 8) rfl)) (ty := .byte) (v' := (.int ((0 : Int32).toInt8.toInt32))) (by decide) rfl (fits_nar_byte _) (g := (mkF m 48 #[.val (.ref a1), .val (.ref a2), .val (.int (0 : Int32)), .val (.int (1 : Int32)), .val .null, .val (.ref b8)] [(.int (0 : Int32)), (.ref a1)])) rfl rfl (hb hby d4_48)
  have K23 : ∀ t, Steps p.tables e below (T22.setTop (mkF m 51 #[.val (.ref a1), .val (.ref a2), .val (.int (0 : Int32)), .val (.int (1 : Int32)), .val .null, .val (.ref b8)] [])) t → Steps p.tables e below G t := fun t k => K21 t (st22 t k)
  have f24 := f10.wr W22
  have f25 := f11.other W22 (Or.inr (slot_ne (Or.inr (hw _ (List.mem_of_getElem? (i := 36) rfl))) (Or.inr (hw _ (List.mem_of_getElem? (i := 34) rfl))) (by decide) (t := (.array .byte)) (t' := .byte) (by decide) (by decide)))
  have f26 := f12.same W22
  have f27 := f13.other W22 (Ne.symm ne12)
  have f28 := f14.wr W22 g1
  have f29 := V8.other W22 (Ne.symm ne_a1_b8)
  have Z30 : n0 ≤ h22.size := Nat.le_trans Z15 (Keep.of_wr W22).1
  have KP31 : Keep h0 h22 [a1] := KP16.wr W22 (Or.inl (List.mem_of_getElem? (i := 0) rfl))
  have N32 := Fr.snoc X22 N20 g1
  have K33 : ∀ t, Steps p.tables e below (T22.setTop (mkF m 54 #[.val (.ref a1), .val (.ref a2), .val (.int (0 : Int32)), .val (.int (1 : Int32)), .val .null, .val (.ref b8)] [(.ref b8), (.ref a1)])) t → Steps p.tables e below G t := by
    intro t k
    refine K23 t ?_
    show Steps p.tables e below (T22.setTop (mkF m 51 #[.val (.ref a1), .val (.ref a2), .val (.int (0 : Int32)), .val (.int (1 : Int32)), .val .null, .val (.ref b8)] [])) _
    refine XS.aloadN X22.here hx rfl (hb hby d4_51) rfl rfl ?_
    show Steps p.tables e below (T22.setTop (mkF m 52 #[.val (.ref a1), .val (.ref a2), .val (.int (0 : Int32)), .val (.int (1 : Int32)), .val .null, .val (.ref b8)] [(.ref a1)])) _
    refine XS.aload X22.here hx rfl (hb hby d4_52) rfl rfl ?_
    show Steps p.tables e below (T22.setTop (mkF m 54 #[.val (.ref a1), .val (.ref a2), .val (.int (0 : Int32)), .val (.int (1 : Int32)), .val .null, .val (.ref b8)] [(.ref b8), (.ref a1)])) _
    exact k
  obtain ⟨T34, h34, X34, e34, W34, st34⟩ := putF X22 hx hZ hown (host := "") (Or.inl (hw _ (List.mem_of_getElem? (i := 35) rfl))) Via.refl e22 f25 f24 (Or.inr ⟨(hw _ (List.mem_of_getElem? (i := 36) rfl)), rfl, hnm⟩) (hw _ (List.mem_of_getElem? (i := 8) rfl)) (ty := (.array .byte)) (by decide) rfl rfl (g := (mkF m 54 #[.val (.ref a1), .val (.ref a2), .val (.int (0 : Int32)), .val (.int (1 : Int32)), .val .null, .val (.ref b8)] [(.ref b8), (.ref a1)])) rfl rfl (hb hby d4_54)
  have K35 : ∀ t, Steps p.tables e below (T34.setTop (mkF m 57 #[.val (.ref a1), .val (.ref a2), .val (.int (0 : Int32)), .val (.int (1 : Int32)), .val .null, .val (.ref b8)] [])) t → Steps p.tables e below G t := fun t k => K33 t (st34 t k)
  have f36 := f24.wr W34
  have f37 := f25.same W34
  have f38 := f26.other W34 (Or.inr (slot_ne (Or.inr (hw _ (List.mem_of_getElem? (i := 34) rfl))) (Or.inr (hw _ (List.mem_of_getElem? (i := 36) rfl))) (by decide) (t := .byte) (t' := (.array .byte)) (by decide) (by decide)))
  have f39 := f27.other W34 (Ne.symm ne12)
  have f40 := f28.wr W34 g1
  have f41 := f29.other W34 (Ne.symm ne_a1_b8)
  have Z42 : n0 ≤ h34.size := Nat.le_trans Z30 (Keep.of_wr W34).1
  have KP43 : Keep h0 h34 [a1] := KP31.wr W34 (Or.inl (List.mem_of_getElem? (i := 0) rfl))
  have N44 := Fr.snoc X34 N32 g1
  obtain ⟨fs, hr, hrun, hended, hW, hsame⟩ := X34.leave (v := none) (fun _ => rfl)
  have KF := K35
  rw [hG] at KF
  refine ⟨_, _, KF _ ?_, hrun, hended, _, _, rfl, ?_, ⟨_, rfl⟩, hW, hsame.mono (by decide) (by decide)⟩
  · show Steps p.tables e below (T34.setTop (mkF m 57 #[.val (.ref a1), .val (.ref a2), .val (.int (0 : Int32)), .val (.int (1 : Int32)), .val .null, .val (.ref b8)] [])) _
    exact X34.returnOut hx Bd.returns (hb hby d4_57) hr
  · show Q4_1 Z a1 ee0 h0 n0 _ T34.heap _
    rw [e34]
    exact ⟨b8, _, rfl, N44, KP43, sz_b8, f36, f37, f38, f41⟩
def Q3_1 (Z : State) (a1 : Addr) (ee0 : Int32) (h0 : Heap) (n0 : Nat) (v : Option Value) (h : Heap) (L : List Loc) : Prop := ∃ (b : Addr) (k : ClassId), v = none ∧ Fr n0 L ∧ Keep h0 h [a1] ∧ h0.size ≤ b ∧ Exa Z h a1 "java/lang/String" ∧ Fld Z h a1 "java/lang/String" "value" "[B" (.ref b) ∧ Fld Z h a1 "java/lang/String" "coder" "B" (.int (0 : Int32)) ∧ Arv Z h b k .byte (1 : Int32) [(.int (nar .byte (ee0.toInt8.toInt32)))] (.int (0 : Int32))
theorem d3_0 : decode jdk_42_method_3_code 0 = .ok (.aload_n 0, 1) := by decide +kernel
theorem d3_1 : decode jdk_42_method_3_code 1 = .ok (.aload_n 1, 1) := by decide +kernel
theorem d3_2 : decode jdk_42_method_3_code 2 = .ok (.iconst 0, 1) := by decide +kernel
theorem d3_3 : decode jdk_42_method_3_code 3 = .ok (.aload_n 1, 1) := by decide +kernel
theorem d3_4 : decode jdk_42_method_3_code 4 = .ok (.arraylength, 1) := by decide +kernel
theorem d3_5 : decode jdk_42_method_3_code 5 = .ok (.aconst_null, 1) := by decide +kernel
theorem d3_6 : decode jdk_42_method_3_code 6 = .ok (.invokespecial 27, 3) := by decide +kernel
theorem d3_9 : decode jdk_42_method_3_code 9 = .ok (.return_, 1) := by decide +kernel
theorem pd_3 : parseMethodDescriptor "([CIILjava/lang/Void;)V" = some ⟨[(.array .char), .int, .int, (.object "java/lang/Void")], none⟩ := by decide +kernel
theorem ef_rm3_1 (m : MethodId) (x0 : Addr) (x1 : Addr) : entryFrame m #[(.ref x0), (.ref x1)] 2 = mkF m 0 #[.val (.ref x0), .val (.ref x1)] [] := by first | (simp [entryFrame, mkF, argsToLocals, Value.category]; done) | rfl
set_option maxRecDepth 65536 in
set_option maxHeartbeats 40000000 in
theorem rm3_1 (l : Launch) (Z : State) (a0 : Array Value) (hw : ∀ d ∈ tables_1, d.before a0 Z = true) (ws : List Jvm.Cond) (a1 a2 : Addr) (k2 : ClassId) (cs : Int32) (ee0 : Int32) (h0 : Heap) (n0 : Nat) (Z0 : n0 ≤ h0.size) (E1 : Exa Z h0 a1 "java/lang/String") (F1 : Fld Z h0 a1 "java/lang/String" "value" "[B" .null) (F2 : Fld Z h0 a1 "java/lang/String" "coder" "B" (.int (0 : Int32))) (V2 : Arv Z h0 a2 k2 .char (1 : Int32) [(.int ee0)] (.int (0 : Int32))) (g1 : n0 ≤ a1) (SC : Sta Z Z.heap "java/lang/String" "COMPACT_STRINGS" "Z" (.int cs)) (hcs : ¬ cs = 0) (O0 : Old Z n0 h0) (hec0 : ¬ (255 : Int32) < ee0) :
    MetFree l (⟨"java/lang/String", "<init>", "([C)V"⟩ : MethodName) (head1 (Jvm.Cond.code (⟨"java/lang/String", "<init>", "([C)V"⟩ : MethodName) jdk_42_method_3_code 2 none :: ws) ({ frames := 3, cells := 1, slots := 1, locals := 52 } : Room)) (fun a U => a = #[(.ref a1), (.ref a2)] ∧ Z.Warmed39 U.vm ∧ U.heap = h0) (fun _ _ _ _ _ => True) (fun _ U o U' => ∃ v L, o = .returned v ∧ Q3_1 Z a1 ee0 h0 n0 v U'.heap L ∧ FrameEnd U o U' L ({ frames := 3, cells := 1, slots := 1, locals := 52 } : Room).cells ({ frames := 3, cells := 1, slots := 1, locals := 52 } : Room).slots) := by
  refine MetFree.of_bodySF (plainFor_of_name pn_java_lang_String) hisR ?_
  intro p e s m args below meth c s₁ Bd hml0 hP hK
  obtain ⟨rfl, hZ, hh⟩ := hP
  have hx := Bd.exec
  have hby := Bd.bytes
  have hml : c.maxLocals = 2 := hml0
  have hown : s.vm.findClass "java/lang/String" = some m.cls := findClass_of_methodNamed Bd.named
  have hnm := (name_of_methodNamed Bd.named Bd.method).1
  have X0 : Stand p l e ({ frames := 3, cells := 1, slots := 1, locals := 52 } : Room) s m #[(.ref a1), (.ref a2)] below meth c s₁ [] 0 0 := Stand.of_body Bd
  have e0 : s₁.heap = h0 := by rw [← hh, Bd.state]; rfl
  have N0 := Fr.nil n0
  have KP0 : Keep h0 h0 [a1] := Keep.refl h0 _
  obtain ⟨G, hG⟩ : ∃ G : State, G = s₁.setTop (entryFrame m #[(.ref a1), (.ref a2)] 2) := ⟨_, rfl⟩
  have pre0 : ∀ t, Steps p.tables e below (s₁.setTop (mkF m 0 #[.val (.ref a1), .val (.ref a2)] [])) t → Steps p.tables e below G t := fun t k => hG ▸ castTop (ef_rm3_1 m a1 a2) k
  have ne12 : a1 ≠ a2 := by obtain ⟨cz, Az, -⟩ := V2; exact ne_arr E1 (hw _ (List.mem_of_getElem? (i := 8) rfl)) Az
  have K1 : ∀ t, Steps p.tables e below (s₁.setTop (mkF m 4 #[.val (.ref a1), .val (.ref a2)] [(.ref a2), (.int (0 : Int32)), (.ref a2), (.ref a1)])) t → Steps p.tables e below G t := by
    intro t k
    refine pre0 t ?_
    show Steps p.tables e below (s₁.setTop (mkF m 0 #[.val (.ref a1), .val (.ref a2)] [])) _
    refine XS.aloadN X0.here hx rfl (hb hby d3_0) rfl rfl ?_
    show Steps p.tables e below (s₁.setTop (mkF m 1 #[.val (.ref a1), .val (.ref a2)] [(.ref a1)])) _
    refine XS.aloadN X0.here hx rfl (hb hby d3_1) rfl rfl ?_
    show Steps p.tables e below (s₁.setTop (mkF m 2 #[.val (.ref a1), .val (.ref a2)] [(.ref a2), (.ref a1)])) _
    refine XS.iconst X0.here hx rfl (hb hby d3_2) ?_
    show Steps p.tables e below (s₁.setTop (mkF m 3 #[.val (.ref a1), .val (.ref a2)] [(.int (0 : Int32)), (.ref a2), (.ref a1)])) _
    refine XS.aloadN X0.here hx rfl (hb hby d3_3) rfl rfl ?_
    show Steps p.tables e below (s₁.setTop (mkF m 4 #[.val (.ref a1), .val (.ref a2)] [(.ref a2), (.int (0 : Int32)), (.ref a2), (.ref a1)])) _
    exact k
  obtain ⟨cl2, Ar2, -, S2, M2, -, -⟩ := id V2
  have K3 : ∀ t, Steps p.tables e below (s₁.setTop (mkF m 5 #[.val (.ref a1), .val (.ref a2)] [(.int (1 : Int32)), (.int (0 : Int32)), (.ref a2), (.ref a1)])) t → Steps p.tables e below G t := by
    intro t k
    refine K1 t ?_
    refine X0.arraylength hx (by rw [e0]; exact Ar2.1) (State.isArrayOf_alike hZ.alike Ar2.2.1) (g := (mkF m 4 #[.val (.ref a1), .val (.ref a2)] [(.ref a2), (.int (0 : Int32)), (.ref a2), (.ref a1)])) rfl rfl (hb hby d3_4) _ ?_
    rw [len_of S2 M2]
    exact k
  have K4 : ∀ t, Steps p.tables e below (s₁.setTop (mkF m 6 #[.val (.ref a1), .val (.ref a2)] [.null, (.int (1 : Int32)), (.int (0 : Int32)), (.ref a2), (.ref a1)])) t → Steps p.tables e below G t := by
    intro t k
    refine K3 t ?_
    show Steps p.tables e below (s₁.setTop (mkF m 5 #[.val (.ref a1), .val (.ref a2)] [(.int (1 : Int32)), (.int (0 : Int32)), (.ref a2), (.ref a1)])) _
    refine XS.aconstNull X0.here hx rfl (hb hby d3_5) ?_
    show Steps p.tables e below (s₁.setTop (mkF m 6 #[.val (.ref a1), .val (.ref a2)] [.null, (.int (1 : Int32)), (.int (0 : Int32)), (.ref a2), (.ref a1)])) _
    exact k
  obtain ⟨_, _, ⟨T5, L5, kk5, nn5⟩, -, X5, ⟨Lc5, hQ5, lq5, yq5, zq5⟩, st5⟩ := X0.specialBack hx (y := (⟨"java/lang/String", "<init>", "([CIILjava/lang/Void;)V"⟩ : MethodName)) rfl hown (mvT hZ (hw _ (List.mem_of_getElem? (i := 14) rfl))) (mvT hZ (hw _ (List.mem_of_getElem? (i := 15) rfl))) (mvT hZ (hw _ (List.mem_of_getElem? (i := 17) rfl))) (by decide) (backOf (W := 0) (rm4_1 l Z a0 hw [] a1 a2 k2 cs ee0 h0 n0 Z0 E1 F1 F2 V2 g1 SC hcs O0 hec0) hZ (hw _ (List.mem_of_getElem? (i := 17) rfl)) (hw _ (List.mem_of_getElem? (i := 9) rfl)) (by decide) (by decide)) (g := (mkF m 6 #[.val (.ref a1), .val (.ref a2)] [.null, (.int (1 : Int32)), (.int (0 : Int32)), (.ref a2), (.ref a1)])) rfl (by rw [hml]; rfl) (Steps.refl _) (a := a1) (argsL := [(.ref a2), (.int (0 : Int32)), (.int (1 : Int32)), .null]) (rest := []) (lenOf pd_3 rfl) rfl (by show 2 * 0 + _ ≤ _; exact Nat.le_of_eq rfl) (hb hby d3_6) (fun _ _ => ⟨rfl, e0, (by decide : 0 + 1 ≤ _), (by decide : 0 + 1 ≤ _)⟩)
  dsimp only [Pt.U, Pt.locs, Pt.cells, Pt.slots] at X5 lq5 yq5 zq5 st5 hQ5
  subst lq5 yq5 zq5
  obtain ⟨b5, kb5, rfl, Nq5, K5, sz5, E5', Fv5, Fc5, Vb5⟩ := hQ5
  have N6 := Fr.app N0 Nq5
  have ne_a1_b5 : a1 ≠ b5 := Nat.ne_of_lt (Nat.lt_of_lt_of_le E1.lt sz5)
  have ne_a2_b5 : a2 ≠ b5 := Nat.ne_of_lt (Nat.lt_of_lt_of_le V2.lt sz5)
  have g_b5 : n0 ≤ b5 := Nat.le_trans Z0 sz5
  have sz_b5 : h0.size ≤ b5 := Nat.le_trans KP0.1 sz5
  have f7 := E1.keep K5
  have f8 := V2.keep K5 (ninS (Ne.symm ne12) nin0)
  have f9 := O0.keep K5 (allS g1 all0)
  have Z10 : n0 ≤ T5.heap.size := Nat.le_trans Z0 K5.1
  have KP11 : Keep h0 T5.heap [a1] := KP0.trans K5 (allS (Or.inl (List.mem_of_getElem? (i := 0) rfl)) all0)
  have K12 : ∀ t, Steps p.tables e below (T5.setTop (mkF m 9 #[.val (.ref a1), .val (.ref a2)] [])) t → Steps p.tables e below G t := fun t k => K4 t (st5.trans k)
  obtain ⟨fs, hr, hrun, hended, hW, hsame⟩ := X5.leave (v := none) (fun _ => rfl)
  have KF := K12
  rw [hG] at KF
  refine ⟨_, _, KF _ ?_, hrun, hended, _, _, rfl, ?_, ⟨_, rfl⟩, hW, hsame.mono (by decide) (by decide)⟩
  · show Steps p.tables e below (T5.setTop (mkF m 9 #[.val (.ref a1), .val (.ref a2)] [])) _
    exact X5.returnOut hx Bd.returns (hb hby d3_9) hr
  · show Q3_1 Z a1 ee0 h0 n0 _ T5.heap _
    exact ⟨b5, _, rfl, N6, KP11, sz_b5, E5', Fv5, Fc5, Vb5⟩
def Q7_2 (Z : State) (a2 : Addr) (k2 : ClassId) (ee0 ee1 : Int32) (h0 : Heap) (n0 : Nat) (v : Option Value) (h : Heap) (L : List Loc) : Prop := v = some (.int (2 : Int32)) ∧ Fr n0 L ∧ Keep h0 h [a2] ∧ Arv Z h a2 k2 .byte (2 : Int32) [(.int (nar .byte (ee0.toInt8.toInt32))), (.int (nar .byte (ee1.toInt8.toInt32)))] (.int (0 : Int32))
theorem ef_rm7_2 (m : MethodId) (x0 : Addr) (x2 : Addr) : entryFrame m #[(.ref x0), (.int (0 : Int32)), (.ref x2), (.int (0 : Int32)), (.int (2 : Int32))] 7 = mkF m 0 #[.val (.ref x0), .val (.int (0 : Int32)), .val (.ref x2), .val (.int (0 : Int32)), .val (.int (2 : Int32)), .unset, .unset] [] := by first | (simp [entryFrame, mkF, argsToLocals, Value.category]; done) | rfl
set_option maxRecDepth 65536 in
set_option maxHeartbeats 40000000 in
theorem rm7_2 (l : Launch) (Z : State) (a0 : Array Value) (hw : ∀ d ∈ tables_1, d.before a0 Z = true) (ws : List Jvm.Cond) (a1 a2 : Addr) (k1 k2 : ClassId) (ee0 ee1 : Int32) (h0 : Heap) (n0 : Nat) (Z0 : n0 ≤ h0.size) (V1 : Arv Z h0 a1 k1 .char (2 : Int32) [(.int ee0), (.int ee1)] (.int (0 : Int32))) (V2 : Arv Z h0 a2 k2 .byte (2 : Int32) [(.int (0 : Int32)), (.int (0 : Int32))] (.int (0 : Int32))) (ne12 : a1 ≠ a2) (g2 : n0 ≤ a2) (hec0 : ¬ (255 : Int32) < ee0) (hec1 : ¬ (255 : Int32) < ee1) :
    MetFree l (⟨"java/lang/StringUTF16", "compress", "([CI[BII)I"⟩ : MethodName) (head1 (Jvm.Cond.code (⟨"java/lang/StringUTF16", "compress", "([CI[BII)I"⟩ : MethodName) jdk_52_method_21_code 7 (some .int) :: ws) ({ frames := 0, cells := 0, slots := 0, locals := 0 } : Room)) (fun a U => a = #[(.ref a1), (.int (0 : Int32)), (.ref a2), (.int (0 : Int32)), (.int (2 : Int32))] ∧ Z.Warmed39 U.vm ∧ U.heap = h0) (fun _ _ _ _ _ => True) (fun _ U o U' => ∃ v L, o = .returned v ∧ Q7_2 Z a2 k2 ee0 ee1 h0 n0 v U'.heap L ∧ FrameEnd U o U' L ({ frames := 0, cells := 0, slots := 0, locals := 0 } : Room).cells ({ frames := 0, cells := 0, slots := 0, locals := 0 } : Room).slots) := by
  refine MetFree.of_bodySF (plainFor_of_name pn_java_lang_StringUTF16) hisR ?_
  intro p e s m args below meth c s₁ Bd hml0 hP hK
  obtain ⟨rfl, hZ, hh⟩ := hP
  have hx := Bd.exec
  have hby := Bd.bytes
  have hml : c.maxLocals = 7 := hml0
  have hown : s.vm.findClass "java/lang/StringUTF16" = some m.cls := findClass_of_methodNamed Bd.named
  have hnm := (name_of_methodNamed Bd.named Bd.method).1
  have X0 : Stand p l e ({ frames := 0, cells := 0, slots := 0, locals := 0 } : Room) s m #[(.ref a1), (.int (0 : Int32)), (.ref a2), (.int (0 : Int32)), (.int (2 : Int32))] below meth c s₁ [] 0 0 := Stand.of_body Bd
  have e0 : s₁.heap = h0 := by rw [← hh, Bd.state]; rfl
  have N0 := Fr.nil n0
  have KP0 : Keep h0 h0 [a2] := Keep.refl h0 _
  obtain ⟨G, hG⟩ : ∃ G : State, G = s₁.setTop (entryFrame m #[(.ref a1), (.int (0 : Int32)), (.ref a2), (.int (0 : Int32)), (.int (2 : Int32))] 7) := ⟨_, rfl⟩
  have pre0 : ∀ t, Steps p.tables e below (s₁.setTop (mkF m 0 #[.val (.ref a1), .val (.int (0 : Int32)), .val (.ref a2), .val (.int (0 : Int32)), .val (.int (2 : Int32)), .unset, .unset] [])) t → Steps p.tables e below G t := fun t k => hG ▸ castTop (ef_rm7_2 m a1 a2) k
  have K1 : ∀ t, Steps p.tables e below (s₁.setTop (mkF m 12 #[.val (.ref a1), .val (.int (0 : Int32)), .val (.ref a2), .val (.int (0 : Int32)), .val (.int (2 : Int32)), .val (.int (0 : Int32)), .unset] [(.int (0 : Int32)), (.ref a1)])) t → Steps p.tables e below G t := by
    intro t k
    refine pre0 t ?_
    show Steps p.tables e below (s₁.setTop (mkF m 0 #[.val (.ref a1), .val (.int (0 : Int32)), .val (.ref a2), .val (.int (0 : Int32)), .val (.int (2 : Int32)), .unset, .unset] [])) _
    refine XS.iconst X0.here hx rfl (hb hby d7_0) ?_
    show Steps p.tables e below (s₁.setTop (mkF m 1 #[.val (.ref a1), .val (.int (0 : Int32)), .val (.ref a2), .val (.int (0 : Int32)), .val (.int (2 : Int32)), .unset, .unset] [(.int (0 : Int32))])) _
    refine XS.istore X0.here hx rfl (hb hby d7_1) rfl (l' := #[.val (.ref a1), .val (.int (0 : Int32)), .val (.ref a2), .val (.int (0 : Int32)), .val (.int (2 : Int32)), .val (.int (0 : Int32)), .unset]) rfl ?_
    show Steps p.tables e below (s₁.setTop (mkF m 3 #[.val (.ref a1), .val (.int (0 : Int32)), .val (.ref a2), .val (.int (0 : Int32)), .val (.int (2 : Int32)), .val (.int (0 : Int32)), .unset] [])) _
    refine XS.iload X0.here hx rfl (hb hby d7_3) rfl ?_
    show Steps p.tables e below (s₁.setTop (mkF m 5 #[.val (.ref a1), .val (.int (0 : Int32)), .val (.ref a2), .val (.int (0 : Int32)), .val (.int (2 : Int32)), .val (.int (0 : Int32)), .unset] [(.int (0 : Int32))])) _
    refine XS.iload X0.here hx rfl (hb hby d7_5) rfl ?_
    show Steps p.tables e below (s₁.setTop (mkF m 7 #[.val (.ref a1), .val (.int (0 : Int32)), .val (.ref a2), .val (.int (0 : Int32)), .val (.int (2 : Int32)), .val (.int (0 : Int32)), .unset] [(.int (2 : Int32)), (.int (0 : Int32))])) _
    refine XS.icmpNo X0.here hx rfl (hb hby d7_7) rfl (tlt (by decide)).2.1 ?_
    show Steps p.tables e below (s₁.setTop (mkF m 10 #[.val (.ref a1), .val (.int (0 : Int32)), .val (.ref a2), .val (.int (0 : Int32)), .val (.int (2 : Int32)), .val (.int (0 : Int32)), .unset] [])) _
    refine XS.aloadN X0.here hx rfl (hb hby d7_10) rfl rfl ?_
    show Steps p.tables e below (s₁.setTop (mkF m 11 #[.val (.ref a1), .val (.int (0 : Int32)), .val (.ref a2), .val (.int (0 : Int32)), .val (.int (2 : Int32)), .val (.int (0 : Int32)), .unset] [(.ref a1)])) _
    refine XS.iloadN X0.here hx rfl (hb hby d7_11) rfl ?_
    show Steps p.tables e below (s₁.setTop (mkF m 12 #[.val (.ref a1), .val (.int (0 : Int32)), .val (.ref a2), .val (.int (0 : Int32)), .val (.int (2 : Int32)), .val (.int (0 : Int32)), .unset] [(.int (0 : Int32)), (.ref a1)])) _
    exact k
  obtain ⟨cl2, Ar2, qc2, S2, M2, Ha2, Ga2⟩ := id V1
  have hin2 : ¬ ((0 : Int32) < 0 ∨ cl2.slots.size ≤ ((0 : Int32)).toNatClampNeg) := inb_of S2 ⟨by decide, by decide⟩
  have hat2 : cl2.slots[((0 : Int32)).toNatClampNeg]? = some (.int ee0) := Ha2.at hin2 rfl
  have K3 : ∀ t, Steps p.tables e below (s₁.setTop (mkF m 13 #[.val (.ref a1), .val (.int (0 : Int32)), .val (.ref a2), .val (.int (0 : Int32)), .val (.int (2 : Int32)), .val (.int (0 : Int32)), .unset] [(.int ee0)])) t → Steps p.tables e below G t := fun t k => K1 t (X0.caload hx (j := (0 : Int32)) (v := (.int ee0)) (by rw [e0]; exact Ar2.1) (State.isArrayOf_alike hZ.alike Ar2.2.1) Ar2.2.2 hin2 hat2 (g := (mkF m 12 #[.val (.ref a1), .val (.int (0 : Int32)), .val (.ref a2), .val (.int (0 : Int32)), .val (.int (2 : Int32)), .val (.int (0 : Int32)), .unset] [(.int (0 : Int32)), (.ref a1)])) rfl rfl (hb hby d7_12) _ k)
  have K4 : ∀ t, Steps p.tables e below (s₁.setTop (mkF m 31 #[.val (.ref a1), .val (.int (0 : Int32)), .val (.ref a2), .val (.int (0 : Int32)), .val (.int (2 : Int32)), .val (.int (0 : Int32)), .val (.int ee0)] [(.int (ee0.toInt8.toInt32)), (.int (0 : Int32)), (.ref a2)])) t → Steps p.tables e below G t := by
    intro t k
    refine K3 t ?_
    show Steps p.tables e below (s₁.setTop (mkF m 13 #[.val (.ref a1), .val (.int (0 : Int32)), .val (.ref a2), .val (.int (0 : Int32)), .val (.int (2 : Int32)), .val (.int (0 : Int32)), .unset] [(.int ee0)])) _
    refine XS.istore X0.here hx rfl (hb hby d7_13) rfl (l' := #[.val (.ref a1), .val (.int (0 : Int32)), .val (.ref a2), .val (.int (0 : Int32)), .val (.int (2 : Int32)), .val (.int (0 : Int32)), .val (.int ee0)]) rfl ?_
    show Steps p.tables e below (s₁.setTop (mkF m 15 #[.val (.ref a1), .val (.int (0 : Int32)), .val (.ref a2), .val (.int (0 : Int32)), .val (.int (2 : Int32)), .val (.int (0 : Int32)), .val (.int ee0)] [])) _
    refine XS.iload X0.here hx rfl (hb hby d7_15) rfl ?_
    show Steps p.tables e below (s₁.setTop (mkF m 17 #[.val (.ref a1), .val (.int (0 : Int32)), .val (.ref a2), .val (.int (0 : Int32)), .val (.int (2 : Int32)), .val (.int (0 : Int32)), .val (.int ee0)] [(.int ee0)])) _
    refine XS.sipush X0.here hx rfl (hb hby d7_17) ?_
    show Steps p.tables e below (s₁.setTop (mkF m 20 #[.val (.ref a1), .val (.int (0 : Int32)), .val (.ref a2), .val (.int (0 : Int32)), .val (.int (2 : Int32)), .val (.int (0 : Int32)), .val (.int ee0)] [(.int (255 : Int32)), (.int ee0)])) _
    refine XS.icmpYes X0.here hx rfl (pc0 := 20) (pc' := 26) rfl (hb hby d7_20) rfl (flt hec0).2.2.2 (by decide) (by decide) ?_
    show Steps p.tables e below (s₁.setTop (mkF m 26 #[.val (.ref a1), .val (.int (0 : Int32)), .val (.ref a2), .val (.int (0 : Int32)), .val (.int (2 : Int32)), .val (.int (0 : Int32)), .val (.int ee0)] [])) _
    refine XS.aloadN X0.here hx rfl (hb hby d7_26) rfl rfl ?_
    show Steps p.tables e below (s₁.setTop (mkF m 27 #[.val (.ref a1), .val (.int (0 : Int32)), .val (.ref a2), .val (.int (0 : Int32)), .val (.int (2 : Int32)), .val (.int (0 : Int32)), .val (.int ee0)] [(.ref a2)])) _
    refine XS.iloadN X0.here hx rfl (hb hby d7_27) rfl ?_
    show Steps p.tables e below (s₁.setTop (mkF m 28 #[.val (.ref a1), .val (.int (0 : Int32)), .val (.ref a2), .val (.int (0 : Int32)), .val (.int (2 : Int32)), .val (.int (0 : Int32)), .val (.int ee0)] [(.int (0 : Int32)), (.ref a2)])) _
    refine XS.iload X0.here hx rfl (hb hby d7_28) rfl ?_
    show Steps p.tables e below (s₁.setTop (mkF m 30 #[.val (.ref a1), .val (.int (0 : Int32)), .val (.ref a2), .val (.int (0 : Int32)), .val (.int (2 : Int32)), .val (.int (0 : Int32)), .val (.int ee0)] [(.int ee0), (.int (0 : Int32)), (.ref a2)])) _
    refine XS.i2b X0.here hx rfl (hb hby d7_30) rfl ?_
    show Steps p.tables e below (s₁.setTop (mkF m 31 #[.val (.ref a1), .val (.int (0 : Int32)), .val (.ref a2), .val (.int (0 : Int32)), .val (.int (2 : Int32)), .val (.int (0 : Int32)), .val (.int ee0)] [(.int (ee0.toInt8.toInt32)), (.int (0 : Int32)), (.ref a2)])) _
    exact k
  obtain ⟨cl5, Ar5, qc5, S5, M5, Ha5, Ga5⟩ := id V2
  have hin5 : ¬ ((0 : Int32) < 0 ∨ cl5.slots.size ≤ ((0 : Int32)).toNatClampNeg) := inb_of S5 ⟨by decide, by decide⟩
  obtain ⟨T5, h5, X5, e5, W5, st5⟩ := stB X0 hx hZ e0 Ar5 (j := (0 : Int32)) hin5 (g := (mkF m 31 #[.val (.ref a1), .val (.int (0 : Int32)), .val (.ref a2), .val (.int (0 : Int32)), .val (.int (2 : Int32)), .val (.int (0 : Int32)), .val (.int ee0)] [(.int (ee0.toInt8.toInt32)), (.int (0 : Int32)), (.ref a2)])) rfl rfl (hb hby d7_31)
  have V5 : Arv Z h5 a2 k2 .byte (2 : Int32) [(.int ((ee0.toInt8.toInt32).toInt8.toInt32)), (.int (0 : Int32))] (.int (0 : Int32)) := Arv.set Ar5 qc5 S5 M5 Ha5 Ga5 (fits_nar_byte _) W5 0 rfl (Nat.le_of_ble_eq_true rfl)
  have K6 : ∀ t, Steps p.tables e below (T5.setTop (mkF m 32 #[.val (.ref a1), .val (.int (0 : Int32)), .val (.ref a2), .val (.int (0 : Int32)), .val (.int (2 : Int32)), .val (.int (0 : Int32)), .val (.int ee0)] [])) t → Steps p.tables e below G t := fun t k => K4 t (st5 t k)
  have f7 := V1.other W5 ne12
  have Z8 : n0 ≤ h5.size := Nat.le_trans Z0 (Keep.of_wr W5).1
  have KP9 : Keep h0 h5 [a2] := KP0.wr W5 (Or.inl (List.mem_of_getElem? (i := 0) rfl))
  have N10 := Fr.snoc X5 N0 g2
  have K11 : ∀ t, Steps p.tables e below (T5.setTop (mkF m 12 #[.val (.ref a1), .val (.int (1 : Int32)), .val (.ref a2), .val (.int (1 : Int32)), .val (.int (2 : Int32)), .val (.int (1 : Int32)), .val (.int ee0)] [(.int (1 : Int32)), (.ref a1)])) t → Steps p.tables e below G t := by
    intro t k
    refine K6 t ?_
    show Steps p.tables e below (T5.setTop (mkF m 32 #[.val (.ref a1), .val (.int (0 : Int32)), .val (.ref a2), .val (.int (0 : Int32)), .val (.int (2 : Int32)), .val (.int (0 : Int32)), .val (.int ee0)] [])) _
    refine XS.iinc X5.here hx rfl (hb hby d7_32) rfl (l' := #[.val (.ref a1), .val (.int (1 : Int32)), .val (.ref a2), .val (.int (0 : Int32)), .val (.int (2 : Int32)), .val (.int (0 : Int32)), .val (.int ee0)]) rfl ?_
    show Steps p.tables e below (T5.setTop (mkF m 35 #[.val (.ref a1), .val (.int (1 : Int32)), .val (.ref a2), .val (.int (0 : Int32)), .val (.int (2 : Int32)), .val (.int (0 : Int32)), .val (.int ee0)] [])) _
    refine XS.iinc X5.here hx rfl (hb hby d7_35) rfl (l' := #[.val (.ref a1), .val (.int (1 : Int32)), .val (.ref a2), .val (.int (1 : Int32)), .val (.int (2 : Int32)), .val (.int (0 : Int32)), .val (.int ee0)]) rfl ?_
    show Steps p.tables e below (T5.setTop (mkF m 38 #[.val (.ref a1), .val (.int (1 : Int32)), .val (.ref a2), .val (.int (1 : Int32)), .val (.int (2 : Int32)), .val (.int (0 : Int32)), .val (.int ee0)] [])) _
    refine XS.iinc X5.here hx rfl (hb hby d7_38) rfl (l' := #[.val (.ref a1), .val (.int (1 : Int32)), .val (.ref a2), .val (.int (1 : Int32)), .val (.int (2 : Int32)), .val (.int (1 : Int32)), .val (.int ee0)]) rfl ?_
    show Steps p.tables e below (T5.setTop (mkF m 41 #[.val (.ref a1), .val (.int (1 : Int32)), .val (.ref a2), .val (.int (1 : Int32)), .val (.int (2 : Int32)), .val (.int (1 : Int32)), .val (.int ee0)] [])) _
    refine XS.goto X5.here hx rfl (pc0 := 41) (pc' := 3) rfl (hb hby d7_41) (by decide) (by decide) ?_
    show Steps p.tables e below (T5.setTop (mkF m 3 #[.val (.ref a1), .val (.int (1 : Int32)), .val (.ref a2), .val (.int (1 : Int32)), .val (.int (2 : Int32)), .val (.int (1 : Int32)), .val (.int ee0)] [])) _
    refine XS.iload X5.here hx rfl (hb hby d7_3) rfl ?_
    show Steps p.tables e below (T5.setTop (mkF m 5 #[.val (.ref a1), .val (.int (1 : Int32)), .val (.ref a2), .val (.int (1 : Int32)), .val (.int (2 : Int32)), .val (.int (1 : Int32)), .val (.int ee0)] [(.int (1 : Int32))])) _
    refine XS.iload X5.here hx rfl (hb hby d7_5) rfl ?_
    show Steps p.tables e below (T5.setTop (mkF m 7 #[.val (.ref a1), .val (.int (1 : Int32)), .val (.ref a2), .val (.int (1 : Int32)), .val (.int (2 : Int32)), .val (.int (1 : Int32)), .val (.int ee0)] [(.int (2 : Int32)), (.int (1 : Int32))])) _
    refine XS.icmpNo X5.here hx rfl (hb hby d7_7) rfl (tlt (by decide)).2.1 ?_
    show Steps p.tables e below (T5.setTop (mkF m 10 #[.val (.ref a1), .val (.int (1 : Int32)), .val (.ref a2), .val (.int (1 : Int32)), .val (.int (2 : Int32)), .val (.int (1 : Int32)), .val (.int ee0)] [])) _
    refine XS.aloadN X5.here hx rfl (hb hby d7_10) rfl rfl ?_
    show Steps p.tables e below (T5.setTop (mkF m 11 #[.val (.ref a1), .val (.int (1 : Int32)), .val (.ref a2), .val (.int (1 : Int32)), .val (.int (2 : Int32)), .val (.int (1 : Int32)), .val (.int ee0)] [(.ref a1)])) _
    refine XS.iloadN X5.here hx rfl (hb hby d7_11) rfl ?_
    show Steps p.tables e below (T5.setTop (mkF m 12 #[.val (.ref a1), .val (.int (1 : Int32)), .val (.ref a2), .val (.int (1 : Int32)), .val (.int (2 : Int32)), .val (.int (1 : Int32)), .val (.int ee0)] [(.int (1 : Int32)), (.ref a1)])) _
    exact k
  obtain ⟨cl12, Ar12, qc12, S12, M12, Ha12, Ga12⟩ := id f7
  have hin12 : ¬ ((1 : Int32) < 0 ∨ cl12.slots.size ≤ ((1 : Int32)).toNatClampNeg) := inb_of S12 ⟨by decide, by decide⟩
  have hat12 : cl12.slots[((1 : Int32)).toNatClampNeg]? = some (.int ee1) := Ha12.at hin12 rfl
  have K13 : ∀ t, Steps p.tables e below (T5.setTop (mkF m 13 #[.val (.ref a1), .val (.int (1 : Int32)), .val (.ref a2), .val (.int (1 : Int32)), .val (.int (2 : Int32)), .val (.int (1 : Int32)), .val (.int ee0)] [(.int ee1)])) t → Steps p.tables e below G t := fun t k => K11 t (X5.caload hx (j := (1 : Int32)) (v := (.int ee1)) (by rw [e5]; exact Ar12.1) (State.isArrayOf_alike hZ.alike Ar12.2.1) Ar12.2.2 hin12 hat12 (g := (mkF m 12 #[.val (.ref a1), .val (.int (1 : Int32)), .val (.ref a2), .val (.int (1 : Int32)), .val (.int (2 : Int32)), .val (.int (1 : Int32)), .val (.int ee0)] [(.int (1 : Int32)), (.ref a1)])) rfl rfl (hb hby d7_12) _ k)
  have K14 : ∀ t, Steps p.tables e below (T5.setTop (mkF m 31 #[.val (.ref a1), .val (.int (1 : Int32)), .val (.ref a2), .val (.int (1 : Int32)), .val (.int (2 : Int32)), .val (.int (1 : Int32)), .val (.int ee1)] [(.int (ee1.toInt8.toInt32)), (.int (1 : Int32)), (.ref a2)])) t → Steps p.tables e below G t := by
    intro t k
    refine K13 t ?_
    show Steps p.tables e below (T5.setTop (mkF m 13 #[.val (.ref a1), .val (.int (1 : Int32)), .val (.ref a2), .val (.int (1 : Int32)), .val (.int (2 : Int32)), .val (.int (1 : Int32)), .val (.int ee0)] [(.int ee1)])) _
    refine XS.istore X5.here hx rfl (hb hby d7_13) rfl (l' := #[.val (.ref a1), .val (.int (1 : Int32)), .val (.ref a2), .val (.int (1 : Int32)), .val (.int (2 : Int32)), .val (.int (1 : Int32)), .val (.int ee1)]) rfl ?_
    show Steps p.tables e below (T5.setTop (mkF m 15 #[.val (.ref a1), .val (.int (1 : Int32)), .val (.ref a2), .val (.int (1 : Int32)), .val (.int (2 : Int32)), .val (.int (1 : Int32)), .val (.int ee1)] [])) _
    refine XS.iload X5.here hx rfl (hb hby d7_15) rfl ?_
    show Steps p.tables e below (T5.setTop (mkF m 17 #[.val (.ref a1), .val (.int (1 : Int32)), .val (.ref a2), .val (.int (1 : Int32)), .val (.int (2 : Int32)), .val (.int (1 : Int32)), .val (.int ee1)] [(.int ee1)])) _
    refine XS.sipush X5.here hx rfl (hb hby d7_17) ?_
    show Steps p.tables e below (T5.setTop (mkF m 20 #[.val (.ref a1), .val (.int (1 : Int32)), .val (.ref a2), .val (.int (1 : Int32)), .val (.int (2 : Int32)), .val (.int (1 : Int32)), .val (.int ee1)] [(.int (255 : Int32)), (.int ee1)])) _
    refine XS.icmpYes X5.here hx rfl (pc0 := 20) (pc' := 26) rfl (hb hby d7_20) rfl (flt hec1).2.2.2 (by decide) (by decide) ?_
    show Steps p.tables e below (T5.setTop (mkF m 26 #[.val (.ref a1), .val (.int (1 : Int32)), .val (.ref a2), .val (.int (1 : Int32)), .val (.int (2 : Int32)), .val (.int (1 : Int32)), .val (.int ee1)] [])) _
    refine XS.aloadN X5.here hx rfl (hb hby d7_26) rfl rfl ?_
    show Steps p.tables e below (T5.setTop (mkF m 27 #[.val (.ref a1), .val (.int (1 : Int32)), .val (.ref a2), .val (.int (1 : Int32)), .val (.int (2 : Int32)), .val (.int (1 : Int32)), .val (.int ee1)] [(.ref a2)])) _
    refine XS.iloadN X5.here hx rfl (hb hby d7_27) rfl ?_
    show Steps p.tables e below (T5.setTop (mkF m 28 #[.val (.ref a1), .val (.int (1 : Int32)), .val (.ref a2), .val (.int (1 : Int32)), .val (.int (2 : Int32)), .val (.int (1 : Int32)), .val (.int ee1)] [(.int (1 : Int32)), (.ref a2)])) _
    refine XS.iload X5.here hx rfl (hb hby d7_28) rfl ?_
    show Steps p.tables e below (T5.setTop (mkF m 30 #[.val (.ref a1), .val (.int (1 : Int32)), .val (.ref a2), .val (.int (1 : Int32)), .val (.int (2 : Int32)), .val (.int (1 : Int32)), .val (.int ee1)] [(.int ee1), (.int (1 : Int32)), (.ref a2)])) _
    refine XS.i2b X5.here hx rfl (hb hby d7_30) rfl ?_
    show Steps p.tables e below (T5.setTop (mkF m 31 #[.val (.ref a1), .val (.int (1 : Int32)), .val (.ref a2), .val (.int (1 : Int32)), .val (.int (2 : Int32)), .val (.int (1 : Int32)), .val (.int ee1)] [(.int (ee1.toInt8.toInt32)), (.int (1 : Int32)), (.ref a2)])) _
    exact k
  obtain ⟨cl15, Ar15, qc15, S15, M15, Ha15, Ga15⟩ := id V5
  have hin15 : ¬ ((1 : Int32) < 0 ∨ cl15.slots.size ≤ ((1 : Int32)).toNatClampNeg) := inb_of S15 ⟨by decide, by decide⟩
  obtain ⟨T15, h15, X15, e15, W15, st15⟩ := stB X5 hx hZ e5 Ar15 (j := (1 : Int32)) hin15 (g := (mkF m 31 #[.val (.ref a1), .val (.int (1 : Int32)), .val (.ref a2), .val (.int (1 : Int32)), .val (.int (2 : Int32)), .val (.int (1 : Int32)), .val (.int ee1)] [(.int (ee1.toInt8.toInt32)), (.int (1 : Int32)), (.ref a2)])) rfl rfl (hb hby d7_31)
  have V15 : Arv Z h15 a2 k2 .byte (2 : Int32) [(.int ((ee0.toInt8.toInt32).toInt8.toInt32)), (.int ((ee1.toInt8.toInt32).toInt8.toInt32))] (.int (0 : Int32)) := Arv.set Ar15 qc15 S15 M15 Ha15 Ga15 (fits_nar_byte _) W15 1 rfl (Nat.le_of_ble_eq_true rfl)
  have K16 : ∀ t, Steps p.tables e below (T15.setTop (mkF m 32 #[.val (.ref a1), .val (.int (1 : Int32)), .val (.ref a2), .val (.int (1 : Int32)), .val (.int (2 : Int32)), .val (.int (1 : Int32)), .val (.int ee1)] [])) t → Steps p.tables e below G t := fun t k => K14 t (st15 t k)
  have f17 := f7.other W15 ne12
  have Z18 : n0 ≤ h15.size := Nat.le_trans Z8 (Keep.of_wr W15).1
  have KP19 : Keep h0 h15 [a2] := KP9.wr W15 (Or.inl (List.mem_of_getElem? (i := 0) rfl))
  have N20 := Fr.snoc X15 N10 g2
  obtain ⟨fs, hr, hrun, hended, hW, hsame⟩ := X15.leave (v := some (.int (2 : Int32))) (fun h => by rw [Bd.returns] at h; cases h)
  have KF := K16
  rw [hG] at KF
  refine ⟨_, _, KF _ ?_, hrun, hended, _, _, rfl, ?_, ⟨_, rfl⟩, hW, hsame.mono (by decide) (by decide)⟩
  · show Steps p.tables e below (T15.setTop (mkF m 32 #[.val (.ref a1), .val (.int (1 : Int32)), .val (.ref a2), .val (.int (1 : Int32)), .val (.int (2 : Int32)), .val (.int (1 : Int32)), .val (.int ee1)] [])) _
    refine XS.iinc X15.here hx rfl (hb hby d7_32) rfl (l' := #[.val (.ref a1), .val (.int (2 : Int32)), .val (.ref a2), .val (.int (1 : Int32)), .val (.int (2 : Int32)), .val (.int (1 : Int32)), .val (.int ee1)]) rfl ?_
    show Steps p.tables e below (T15.setTop (mkF m 35 #[.val (.ref a1), .val (.int (2 : Int32)), .val (.ref a2), .val (.int (1 : Int32)), .val (.int (2 : Int32)), .val (.int (1 : Int32)), .val (.int ee1)] [])) _
    refine XS.iinc X15.here hx rfl (hb hby d7_35) rfl (l' := #[.val (.ref a1), .val (.int (2 : Int32)), .val (.ref a2), .val (.int (2 : Int32)), .val (.int (2 : Int32)), .val (.int (1 : Int32)), .val (.int ee1)]) rfl ?_
    show Steps p.tables e below (T15.setTop (mkF m 38 #[.val (.ref a1), .val (.int (2 : Int32)), .val (.ref a2), .val (.int (2 : Int32)), .val (.int (2 : Int32)), .val (.int (1 : Int32)), .val (.int ee1)] [])) _
    refine XS.iinc X15.here hx rfl (hb hby d7_38) rfl (l' := #[.val (.ref a1), .val (.int (2 : Int32)), .val (.ref a2), .val (.int (2 : Int32)), .val (.int (2 : Int32)), .val (.int (2 : Int32)), .val (.int ee1)]) rfl ?_
    show Steps p.tables e below (T15.setTop (mkF m 41 #[.val (.ref a1), .val (.int (2 : Int32)), .val (.ref a2), .val (.int (2 : Int32)), .val (.int (2 : Int32)), .val (.int (2 : Int32)), .val (.int ee1)] [])) _
    refine XS.goto X15.here hx rfl (pc0 := 41) (pc' := 3) rfl (hb hby d7_41) (by decide) (by decide) ?_
    show Steps p.tables e below (T15.setTop (mkF m 3 #[.val (.ref a1), .val (.int (2 : Int32)), .val (.ref a2), .val (.int (2 : Int32)), .val (.int (2 : Int32)), .val (.int (2 : Int32)), .val (.int ee1)] [])) _
    refine XS.iload X15.here hx rfl (hb hby d7_3) rfl ?_
    show Steps p.tables e below (T15.setTop (mkF m 5 #[.val (.ref a1), .val (.int (2 : Int32)), .val (.ref a2), .val (.int (2 : Int32)), .val (.int (2 : Int32)), .val (.int (2 : Int32)), .val (.int ee1)] [(.int (2 : Int32))])) _
    refine XS.iload X15.here hx rfl (hb hby d7_5) rfl ?_
    show Steps p.tables e below (T15.setTop (mkF m 7 #[.val (.ref a1), .val (.int (2 : Int32)), .val (.ref a2), .val (.int (2 : Int32)), .val (.int (2 : Int32)), .val (.int (2 : Int32)), .val (.int ee1)] [(.int (2 : Int32)), (.int (2 : Int32))])) _
    refine XS.icmpYes X15.here hx rfl (pc0 := 7) (pc' := 44) rfl (hb hby d7_7) rfl (flt (by decide)).2.1 (by decide) (by decide) ?_
    show Steps p.tables e below (T15.setTop (mkF m 44 #[.val (.ref a1), .val (.int (2 : Int32)), .val (.ref a2), .val (.int (2 : Int32)), .val (.int (2 : Int32)), .val (.int (2 : Int32)), .val (.int ee1)] [])) _
    refine XS.iload X15.here hx rfl (hb hby d7_44) rfl ?_
    show Steps p.tables e below (T15.setTop (mkF m 46 #[.val (.ref a1), .val (.int (2 : Int32)), .val (.ref a2), .val (.int (2 : Int32)), .val (.int (2 : Int32)), .val (.int (2 : Int32)), .val (.int ee1)] [(.int (2 : Int32))])) _
    exact own_retI X15 hx Bd.returns (hb hby d7_46) hr
  · show Q7_2 Z a2 k2 ee0 ee1 h0 n0 _ T15.heap _
    rw [e15]
    exact ⟨rfl, N20, KP19, V15⟩
def Q6_2 (Z : State) (ee0 ee1 : Int32) (h0 : Heap) (n0 : Nat) (v : Option Value) (h : Heap) (L : List Loc) : Prop := ∃ (b : Addr) (k : ClassId), v = some (.ref b) ∧ Fr n0 L ∧ Keep h0 h [] ∧ h0.size ≤ b ∧ Arv Z h b k .byte (2 : Int32) [(.int (nar .byte (ee0.toInt8.toInt32))), (.int (nar .byte (ee1.toInt8.toInt32)))] (.int (0 : Int32))
theorem ef_rm6_2 (m : MethodId) (x0 : Addr) : entryFrame m #[(.ref x0), (.int (0 : Int32)), (.int (2 : Int32))] 6 = mkF m 0 #[.val (.ref x0), .val (.int (0 : Int32)), .val (.int (2 : Int32)), .unset, .unset, .unset] [] := by first | (simp [entryFrame, mkF, argsToLocals, Value.category]; done) | rfl
set_option maxRecDepth 65536 in
set_option maxHeartbeats 40000000 in
theorem rm6_2 (l : Launch) (Z : State) (a0 : Array Value) (hw : ∀ d ∈ tables_1, d.before a0 Z = true) (ws : List Jvm.Cond) (a1 : Addr) (k1 : ClassId) (ee0 ee1 : Int32) (h0 : Heap) (n0 : Nat) (Z0 : n0 ≤ h0.size) (V1 : Arv Z h0 a1 k1 .char (2 : Int32) [(.int ee0), (.int ee1)] (.int (0 : Int32))) (hec0 : ¬ (255 : Int32) < ee0) (hec1 : ¬ (255 : Int32) < ee1) :
    MetFree l (⟨"java/lang/StringUTF16", "compress", "([CII)[B"⟩ : MethodName) (head1 (Jvm.Cond.code (⟨"java/lang/StringUTF16", "compress", "([CII)[B"⟩ : MethodName) jdk_52_method_16_code 6 (some (.array .byte)) :: ws) ({ frames := 1, cells := 1, slots := 2, locals := 18 } : Room)) (fun a U => a = #[(.ref a1), (.int (0 : Int32)), (.int (2 : Int32))] ∧ Z.Warmed39 U.vm ∧ U.heap = h0) (fun _ _ _ _ _ => True) (fun _ U o U' => ∃ v L, o = .returned v ∧ Q6_2 Z ee0 ee1 h0 n0 v U'.heap L ∧ FrameEnd U o U' L ({ frames := 1, cells := 1, slots := 2, locals := 18 } : Room).cells ({ frames := 1, cells := 1, slots := 2, locals := 18 } : Room).slots) := by
  refine MetFree.of_bodySF (plainFor_of_name pn_java_lang_StringUTF16) hisR ?_
  intro p e s m args below meth c s₁ Bd hml0 hP hK
  obtain ⟨rfl, hZ, hh⟩ := hP
  have hx := Bd.exec
  have hby := Bd.bytes
  have hml : c.maxLocals = 6 := hml0
  have hown : s.vm.findClass "java/lang/StringUTF16" = some m.cls := findClass_of_methodNamed Bd.named
  have hnm := (name_of_methodNamed Bd.named Bd.method).1
  have X0 : Stand p l e ({ frames := 1, cells := 1, slots := 2, locals := 18 } : Room) s m #[(.ref a1), (.int (0 : Int32)), (.int (2 : Int32))] below meth c s₁ [] 0 0 := Stand.of_body Bd
  have e0 : s₁.heap = h0 := by rw [← hh, Bd.state]; rfl
  have N0 := Fr.nil n0
  have KP0 : Keep h0 h0 [] := Keep.refl h0 _
  obtain ⟨G, hG⟩ : ∃ G : State, G = s₁.setTop (entryFrame m #[(.ref a1), (.int (0 : Int32)), (.int (2 : Int32))] 6) := ⟨_, rfl⟩
  have pre0 : ∀ t, Steps p.tables e below (s₁.setTop (mkF m 0 #[.val (.ref a1), .val (.int (0 : Int32)), .val (.int (2 : Int32)), .unset, .unset, .unset] [])) t → Steps p.tables e below G t := fun t k => hG ▸ castTop (ef_rm6_2 m a1) k
  have K1 : ∀ t, Steps p.tables e below (s₁.setTop (mkF m 1 #[.val (.ref a1), .val (.int (0 : Int32)), .val (.int (2 : Int32)), .unset, .unset, .unset] [(.int (2 : Int32))])) t → Steps p.tables e below G t := by
    intro t k
    refine pre0 t ?_
    show Steps p.tables e below (s₁.setTop (mkF m 0 #[.val (.ref a1), .val (.int (0 : Int32)), .val (.int (2 : Int32)), .unset, .unset, .unset] [])) _
    refine XS.iloadN X0.here hx rfl (hb hby d6_0) rfl ?_
    show Steps p.tables e below (s₁.setTop (mkF m 1 #[.val (.ref a1), .val (.int (0 : Int32)), .val (.int (2 : Int32)), .unset, .unset, .unset] [(.int (2 : Int32))])) _
    exact k
  obtain ⟨T2, h2, kn2, X2, e2, E2, A2, st2⟩ := newP X0 hx hZ (hw _ (List.mem_of_getElem? (i := 26) rfl)) e0 (g := (mkF m 1 #[.val (.ref a1), .val (.int (0 : Int32)), .val (.int (2 : Int32)), .unset, .unset, .unset] [(.int (2 : Int32))])) rfl (hb hby d6_1) rfl (by decide) (cap := 2) (by decide) (by decide) (by decide) (by decide)
  obtain ⟨b2, g2⟩ : ∃ z, z = h0.size := ⟨_, rfl⟩
  rw [← g2] at A2 st2
  have ne_a1_b2 : a1 ≠ b2 := Nat.ne_of_lt (Nat.lt_of_lt_of_le V1.lt (Nat.le_of_eq g2.symm))
  have g_b2 : n0 ≤ b2 := Nat.le_trans Z0 (Nat.le_of_eq g2.symm)
  have sz_b2 : h0.size ≤ b2 := Nat.le_trans KP0.1 (Nat.le_of_eq g2.symm)
  have f3 := V1.ext E2
  have Z4 : n0 ≤ h2.size := Nat.le_trans Z0 E2.1
  have KP5 : Keep h0 h2 [] := KP0.ext E2
  have K6 : ∀ t, Steps p.tables e below (T2.setTop (mkF m 3 #[.val (.ref a1), .val (.int (0 : Int32)), .val (.int (2 : Int32)), .unset, .unset, .unset] [(.ref b2)])) t → Steps p.tables e below G t := fun t k => K1 t (st2 t k)
  have V2 : Arv Z h2 b2 kn2 .byte (2 : Int32) [(.int (0 : Int32)), (.int (0 : Int32))] (.int (0 : Int32)) := (Arv.new A2 (by decide)).pad (pad_rep [] (.int (0 : Int32)) 2)
  have K7 : ∀ t, Steps p.tables e below (T2.setTop (mkF m 9 #[.val (.ref a1), .val (.int (0 : Int32)), .val (.int (2 : Int32)), .val (.ref b2), .unset, .unset] [(.int (2 : Int32)), (.int (0 : Int32)), (.ref b2), (.int (0 : Int32)), (.ref a1)])) t → Steps p.tables e below G t := by
    intro t k
    refine K6 t ?_
    show Steps p.tables e below (T2.setTop (mkF m 3 #[.val (.ref a1), .val (.int (0 : Int32)), .val (.int (2 : Int32)), .unset, .unset, .unset] [(.ref b2)])) _
    refine XS.astoreN X2.here hx rfl (hb hby d6_3) rfl rfl (l' := #[.val (.ref a1), .val (.int (0 : Int32)), .val (.int (2 : Int32)), .val (.ref b2), .unset, .unset]) rfl ?_
    show Steps p.tables e below (T2.setTop (mkF m 4 #[.val (.ref a1), .val (.int (0 : Int32)), .val (.int (2 : Int32)), .val (.ref b2), .unset, .unset] [])) _
    refine XS.aloadN X2.here hx rfl (hb hby d6_4) rfl rfl ?_
    show Steps p.tables e below (T2.setTop (mkF m 5 #[.val (.ref a1), .val (.int (0 : Int32)), .val (.int (2 : Int32)), .val (.ref b2), .unset, .unset] [(.ref a1)])) _
    refine XS.iloadN X2.here hx rfl (hb hby d6_5) rfl ?_
    show Steps p.tables e below (T2.setTop (mkF m 6 #[.val (.ref a1), .val (.int (0 : Int32)), .val (.int (2 : Int32)), .val (.ref b2), .unset, .unset] [(.int (0 : Int32)), (.ref a1)])) _
    refine XS.aloadN X2.here hx rfl (hb hby d6_6) rfl rfl ?_
    show Steps p.tables e below (T2.setTop (mkF m 7 #[.val (.ref a1), .val (.int (0 : Int32)), .val (.int (2 : Int32)), .val (.ref b2), .unset, .unset] [(.ref b2), (.int (0 : Int32)), (.ref a1)])) _
    refine XS.iconst X2.here hx rfl (hb hby d6_7) ?_
    show Steps p.tables e below (T2.setTop (mkF m 8 #[.val (.ref a1), .val (.int (0 : Int32)), .val (.int (2 : Int32)), .val (.ref b2), .unset, .unset] [(.int (0 : Int32)), (.ref b2), (.int (0 : Int32)), (.ref a1)])) _
    refine XS.iloadN X2.here hx rfl (hb hby d6_8) rfl ?_
    show Steps p.tables e below (T2.setTop (mkF m 9 #[.val (.ref a1), .val (.int (0 : Int32)), .val (.int (2 : Int32)), .val (.ref b2), .unset, .unset] [(.int (2 : Int32)), (.int (0 : Int32)), (.ref b2), (.int (0 : Int32)), (.ref a1)])) _
    exact k
  obtain ⟨_, _, ⟨T8, L8, kk8, nn8⟩, -, X8, ⟨Lc8, hQ8, lq8, yq8, zq8⟩, st8⟩ := Jvm.LawKit.callS X2 hx (y := (⟨"java/lang/StringUTF16", "compress", "([CI[BII)I"⟩ : MethodName)) hown (mvT hZ (hw _ (List.mem_of_getElem? (i := 27) rfl))) (mvT hZ (hw _ (List.mem_of_getElem? (i := 28) rfl))) (mvT hZ (hw _ (List.mem_of_getElem? (i := 24) rfl))) (mvT hZ (hw _ (List.mem_of_getElem? (i := 29) rfl))) (by decide) (backOf (W := 0) (rm7_2 l Z a0 hw [] a1 b2 k1 kn2 ee0 ee1 h2 n0 Z4 f3 V2 ne_a1_b2 g_b2 hec0 hec1) hZ (hw _ (List.mem_of_getElem? (i := 29) rfl)) (hw _ (List.mem_of_getElem? (i := 24) rfl)) (by decide) (by decide)) (g := (mkF m 9 #[.val (.ref a1), .val (.int (0 : Int32)), .val (.int (2 : Int32)), .val (.ref b2), .unset, .unset] [(.int (2 : Int32)), (.int (0 : Int32)), (.ref b2), (.int (0 : Int32)), (.ref a1)])) rfl (by rw [hml]; rfl) (argsL := [(.ref a1), (.int (0 : Int32)), (.ref b2), (.int (0 : Int32)), (.int (2 : Int32))]) (rest := []) (lenOf pd_0 rfl) rfl (by show 2 * 0 + _ ≤ _; exact Nat.le_of_eq rfl) (hb hby d6_9) (fun _ _ => ⟨rfl, e2, (by decide : 1 + 0 ≤ _), (by decide : 2 + 0 ≤ _)⟩)
  dsimp only [Pt.U, Pt.locs, Pt.cells, Pt.slots] at X8 lq8 yq8 zq8 st8 hQ8
  subst lq8 yq8 zq8
  obtain ⟨rfl, Nq8, K8, V8⟩ := hQ8
  have N9 := Fr.app N0 Nq8
  have f10 := f3.keep K8 (ninS ne_a1_b2 nin0)
  have Z11 : n0 ≤ T8.heap.size := Nat.le_trans Z4 K8.1
  have KP12 : Keep h0 T8.heap [] := KP5.trans K8 (allS (Or.inr sz_b2) all0)
  have K13 : ∀ t, Steps p.tables e below (T8.setTop (mkF m 12 #[.val (.ref a1), .val (.int (0 : Int32)), .val (.int (2 : Int32)), .val (.ref b2), .unset, .unset] [(.int (2 : Int32))])) t → Steps p.tables e below G t := fun t k => K7 t (st8 _ k)
  obtain ⟨fs, hr, hrun, hended, hW, hsame⟩ := X8.leave (v := some (.ref b2)) (fun h => by rw [Bd.returns] at h; cases h)
  have KF := K13
  rw [hG] at KF
  refine ⟨_, _, KF _ ?_, hrun, hended, _, _, rfl, ?_, ⟨_, rfl⟩, hW, hsame.mono (by decide) (by decide)⟩
  · show Steps p.tables e below (T8.setTop (mkF m 12 #[.val (.ref a1), .val (.int (0 : Int32)), .val (.int (2 : Int32)), .val (.ref b2), .unset, .unset] [(.int (2 : Int32))])) _
    refine XS.istore X8.here hx rfl (hb hby d6_12) rfl (l' := #[.val (.ref a1), .val (.int (0 : Int32)), .val (.int (2 : Int32)), .val (.ref b2), .val (.int (2 : Int32)), .unset]) rfl ?_
    show Steps p.tables e below (T8.setTop (mkF m 14 #[.val (.ref a1), .val (.int (0 : Int32)), .val (.int (2 : Int32)), .val (.ref b2), .val (.int (2 : Int32)), .unset] [])) _
    refine XS.iload X8.here hx rfl (hb hby d6_14) rfl ?_
    show Steps p.tables e below (T8.setTop (mkF m 16 #[.val (.ref a1), .val (.int (0 : Int32)), .val (.int (2 : Int32)), .val (.ref b2), .val (.int (2 : Int32)), .unset] [(.int (2 : Int32))])) _
    refine XS.iloadN X8.here hx rfl (hb hby d6_16) rfl ?_
    show Steps p.tables e below (T8.setTop (mkF m 17 #[.val (.ref a1), .val (.int (0 : Int32)), .val (.int (2 : Int32)), .val (.ref b2), .val (.int (2 : Int32)), .unset] [(.int (2 : Int32)), (.int (2 : Int32))])) _
    refine XS.icmpYes X8.here hx rfl (pc0 := 17) (pc' := 57) rfl (hb hby d6_17) rfl (teq (by decide)).1 (by decide) (by decide) ?_
    show Steps p.tables e below (T8.setTop (mkF m 57 #[.val (.ref a1), .val (.int (0 : Int32)), .val (.int (2 : Int32)), .val (.ref b2), .val (.int (2 : Int32)), .unset] [])) _
    refine XS.aloadN X8.here hx rfl (hb hby d6_57) rfl rfl ?_
    show Steps p.tables e below (T8.setTop (mkF m 58 #[.val (.ref a1), .val (.int (0 : Int32)), .val (.int (2 : Int32)), .val (.ref b2), .val (.int (2 : Int32)), .unset] [(.ref b2)])) _
    exact own_retA X8 hx Bd.returns rfl rfl rfl (hb hby d6_58) hr
  · show Q6_2 Z ee0 ee1 h0 n0 _ T8.heap _
    exact ⟨_, _, rfl, N9, KP12, sz_b2, V8⟩
def Q8_2 (h0 : Heap) (n0 : Nat) (v : Option Value) (h : Heap) (L : List Loc) : Prop := v = some (.int (0 : Int32)) ∧ Fr n0 L ∧ h = h0
theorem ef_rm8_2 (m : MethodId) (x0 : Addr) : entryFrame m #[(.ref x0), (.int (2 : Int32))] 2 = mkF m 0 #[.val (.ref x0), .val (.int (2 : Int32))] [] := by first | (simp [entryFrame, mkF, argsToLocals, Value.category]; done) | rfl
set_option maxRecDepth 65536 in
set_option maxHeartbeats 40000000 in
theorem rm8_2 (l : Launch) (Z : State) (a0 : Array Value) (hw : ∀ d ∈ tables_1, d.before a0 Z = true) (ws : List Jvm.Cond) (a1 : Addr) (k1 : ClassId) (vs : List Value) (h0 : Heap) (n0 : Nat) (Z0 : n0 ≤ h0.size) (V1 : Arv Z h0 a1 k1 .byte (2 : Int32) vs (.int (0 : Int32))) :
    MetFree l (⟨"java/lang/StringUTF16", "coderFromArrayLen", "([BI)B"⟩ : MethodName) (head1 (Jvm.Cond.code (⟨"java/lang/StringUTF16", "coderFromArrayLen", "([BI)B"⟩ : MethodName) jdk_52_method_15_code 2 (some .byte) :: ws) ({ frames := 0, cells := 0, slots := 0, locals := 0 } : Room)) (fun a U => a = #[(.ref a1), (.int (2 : Int32))] ∧ Z.Warmed39 U.vm ∧ U.heap = h0) (fun _ _ _ _ _ => True) (fun _ U o U' => ∃ v L, o = .returned v ∧ Q8_2 h0 n0 v U'.heap L ∧ FrameEnd U o U' L ({ frames := 0, cells := 0, slots := 0, locals := 0 } : Room).cells ({ frames := 0, cells := 0, slots := 0, locals := 0 } : Room).slots) := by
  refine MetFree.of_bodySF (plainFor_of_name pn_java_lang_StringUTF16) hisR ?_
  intro p e s m args below meth c s₁ Bd hml0 hP hK
  obtain ⟨rfl, hZ, hh⟩ := hP
  have hx := Bd.exec
  have hby := Bd.bytes
  have hml : c.maxLocals = 2 := hml0
  have hown : s.vm.findClass "java/lang/StringUTF16" = some m.cls := findClass_of_methodNamed Bd.named
  have hnm := (name_of_methodNamed Bd.named Bd.method).1
  have X0 : Stand p l e ({ frames := 0, cells := 0, slots := 0, locals := 0 } : Room) s m #[(.ref a1), (.int (2 : Int32))] below meth c s₁ [] 0 0 := Stand.of_body Bd
  have e0 : s₁.heap = h0 := by rw [← hh, Bd.state]; rfl
  have N0 := Fr.nil n0
  have KP0 : Keep h0 h0 [] := Keep.refl h0 _
  obtain ⟨G, hG⟩ : ∃ G : State, G = s₁.setTop (entryFrame m #[(.ref a1), (.int (2 : Int32))] 2) := ⟨_, rfl⟩
  have pre0 : ∀ t, Steps p.tables e below (s₁.setTop (mkF m 0 #[.val (.ref a1), .val (.int (2 : Int32))] [])) t → Steps p.tables e below G t := fun t k => hG ▸ castTop (ef_rm8_2 m a1) k
  have K1 : ∀ t, Steps p.tables e below (s₁.setTop (mkF m 2 #[.val (.ref a1), .val (.int (2 : Int32))] [(.ref a1), (.int (2 : Int32))])) t → Steps p.tables e below G t := by
    intro t k
    refine pre0 t ?_
    show Steps p.tables e below (s₁.setTop (mkF m 0 #[.val (.ref a1), .val (.int (2 : Int32))] [])) _
    refine XS.iloadN X0.here hx rfl (hb hby d8_0) rfl ?_
    show Steps p.tables e below (s₁.setTop (mkF m 1 #[.val (.ref a1), .val (.int (2 : Int32))] [(.int (2 : Int32))])) _
    refine XS.aloadN X0.here hx rfl (hb hby d8_1) rfl rfl ?_
    show Steps p.tables e below (s₁.setTop (mkF m 2 #[.val (.ref a1), .val (.int (2 : Int32))] [(.ref a1), (.int (2 : Int32))])) _
    exact k
  obtain ⟨cl2, Ar2, -, S2, M2, -, -⟩ := id V1
  have K3 : ∀ t, Steps p.tables e below (s₁.setTop (mkF m 3 #[.val (.ref a1), .val (.int (2 : Int32))] [(.int (2 : Int32)), (.int (2 : Int32))])) t → Steps p.tables e below G t := by
    intro t k
    refine K1 t ?_
    refine X0.arraylength hx (by rw [e0]; exact Ar2.1) (State.isArrayOf_alike hZ.alike Ar2.2.1) (g := (mkF m 2 #[.val (.ref a1), .val (.int (2 : Int32))] [(.ref a1), (.int (2 : Int32))])) rfl rfl (hb hby d8_2) _ ?_
    rw [len_of S2 M2]
    exact k
  obtain ⟨fs, hr, hrun, hended, hW, hsame⟩ := X0.leave (v := some (.int (((((0 : Int32).toUInt32 >>> ((31 : Int32) &&& 31).toUInt32).toInt32).toInt8.toInt32).toInt8.toInt32))) (fun h => by rw [Bd.returns] at h; cases h)
  have KF := K3
  rw [hG] at KF
  refine ⟨_, _, KF _ ?_, hrun, hended, _, _, rfl, ?_, ⟨_, rfl⟩, hW, hsame.mono (by decide) (by decide)⟩
  · show Steps p.tables e below (s₁.setTop (mkF m 3 #[.val (.ref a1), .val (.int (2 : Int32))] [(.int (2 : Int32)), (.int (2 : Int32))])) _
    refine XS.isub X0.here hx rfl (hb hby d8_3) rfl ?_
    show Steps p.tables e below (s₁.setTop (mkF m 4 #[.val (.ref a1), .val (.int (2 : Int32))] [(.int (0 : Int32))])) _
    refine XS.bipush X0.here hx rfl (hb hby d8_4) ?_
    show Steps p.tables e below (s₁.setTop (mkF m 6 #[.val (.ref a1), .val (.int (2 : Int32))] [(.int (31 : Int32)), (.int (0 : Int32))])) _
    refine XS.iushr X0.here hx rfl (hb hby d8_6) rfl ?_
    show Steps p.tables e below (s₁.setTop (mkF m 7 #[.val (.ref a1), .val (.int (2 : Int32))] [(.int (((0 : Int32).toUInt32 >>> ((31 : Int32) &&& 31).toUInt32).toInt32))])) _
    refine XS.i2b X0.here hx rfl (hb hby d8_7) rfl ?_
    show Steps p.tables e below (s₁.setTop (mkF m 8 #[.val (.ref a1), .val (.int (2 : Int32))] [(.int ((((0 : Int32).toUInt32 >>> ((31 : Int32) &&& 31).toUInt32).toInt32).toInt8.toInt32))])) _
    exact retN X0 hx (t := .byte) Bd.returns (by simp) (hb hby d8_8) hr
  · show Q8_2 h0 n0 _ s₁.heap _
    rw [e0]
    exact ⟨rfl, N0, rfl⟩
def Q4_2 (Z : State) (a1 : Addr) (ee0 ee1 : Int32) (h0 : Heap) (n0 : Nat) (v : Option Value) (h : Heap) (L : List Loc) : Prop := ∃ (b : Addr) (k : ClassId), v = none ∧ Fr n0 L ∧ Keep h0 h [a1] ∧ h0.size ≤ b ∧ Exa Z h a1 "java/lang/String" ∧ Fld Z h a1 "java/lang/String" "value" "[B" (.ref b) ∧ Fld Z h a1 "java/lang/String" "coder" "B" (.int (0 : Int32)) ∧ Arv Z h b k .byte (2 : Int32) [(.int (nar .byte (ee0.toInt8.toInt32))), (.int (nar .byte (ee1.toInt8.toInt32)))] (.int (0 : Int32))
theorem ef_rm4_2 (m : MethodId) (x0 : Addr) (x1 : Addr) : entryFrame m #[(.ref x0), (.ref x1), (.int (0 : Int32)), (.int (2 : Int32)), .null] 6 = mkF m 0 #[.val (.ref x0), .val (.ref x1), .val (.int (0 : Int32)), .val (.int (2 : Int32)), .val .null, .unset] [] := by first | (simp [entryFrame, mkF, argsToLocals, Value.category]; done) | rfl
set_option maxRecDepth 65536 in
set_option maxHeartbeats 40000000 in
theorem rm4_2 (l : Launch) (Z : State) (a0 : Array Value) (hw : ∀ d ∈ tables_1, d.before a0 Z = true) (ws : List Jvm.Cond) (a1 a2 : Addr) (k2 : ClassId) (cs : Int32) (ee0 ee1 : Int32) (h0 : Heap) (n0 : Nat) (Z0 : n0 ≤ h0.size) (E1 : Exa Z h0 a1 "java/lang/String") (F1 : Fld Z h0 a1 "java/lang/String" "value" "[B" .null) (F2 : Fld Z h0 a1 "java/lang/String" "coder" "B" (.int (0 : Int32))) (V2 : Arv Z h0 a2 k2 .char (2 : Int32) [(.int ee0), (.int ee1)] (.int (0 : Int32))) (g1 : n0 ≤ a1) (SC : Sta Z Z.heap "java/lang/String" "COMPACT_STRINGS" "Z" (.int cs)) (hcs : ¬ cs = 0) (O0 : Old Z n0 h0) (hec0 : ¬ (255 : Int32) < ee0) (hec1 : ¬ (255 : Int32) < ee1) :
    MetFree l (⟨"java/lang/String", "<init>", "([CIILjava/lang/Void;)V"⟩ : MethodName) (head1 (Jvm.Cond.code (⟨"java/lang/String", "<init>", "([CIILjava/lang/Void;)V"⟩ : MethodName) jdk_42_method_149_code 6 none :: ws) ({ frames := 2, cells := 1, slots := 2, locals := 35 } : Room)) (fun a U => a = #[(.ref a1), (.ref a2), (.int (0 : Int32)), (.int (2 : Int32)), .null] ∧ Z.Warmed39 U.vm ∧ U.heap = h0) (fun _ _ _ _ _ => True) (fun _ U o U' => ∃ v L, o = .returned v ∧ Q4_2 Z a1 ee0 ee1 h0 n0 v U'.heap L ∧ FrameEnd U o U' L ({ frames := 2, cells := 1, slots := 2, locals := 35 } : Room).cells ({ frames := 2, cells := 1, slots := 2, locals := 35 } : Room).slots) := by
  refine MetFree.of_bodySF (plainFor_of_name pn_java_lang_String) hisR ?_
  intro p e s m args below meth c s₁ Bd hml0 hP hK
  obtain ⟨rfl, hZ, hh⟩ := hP
  have hx := Bd.exec
  have hby := Bd.bytes
  have hml : c.maxLocals = 6 := hml0
  have hown : s.vm.findClass "java/lang/String" = some m.cls := findClass_of_methodNamed Bd.named
  have hnm := (name_of_methodNamed Bd.named Bd.method).1
  have X0 : Stand p l e ({ frames := 2, cells := 1, slots := 2, locals := 35 } : Room) s m #[(.ref a1), (.ref a2), (.int (0 : Int32)), (.int (2 : Int32)), .null] below meth c s₁ [] 0 0 := Stand.of_body Bd
  have e0 : s₁.heap = h0 := by rw [← hh, Bd.state]; rfl
  have N0 := Fr.nil n0
  have KP0 : Keep h0 h0 [a1] := Keep.refl h0 _
  obtain ⟨G, hG⟩ : ∃ G : State, G = s₁.setTop (entryFrame m #[(.ref a1), (.ref a2), (.int (0 : Int32)), (.int (2 : Int32)), .null] 6) := ⟨_, rfl⟩
  have pre0 : ∀ t, Steps p.tables e below (s₁.setTop (mkF m 0 #[.val (.ref a1), .val (.ref a2), .val (.int (0 : Int32)), .val (.int (2 : Int32)), .val .null, .unset] [])) t → Steps p.tables e below G t := fun t k => hG ▸ castTop (ef_rm4_2 m a1 a2) k
  have ne12 : a1 ≠ a2 := by obtain ⟨cz, Az, -⟩ := V2; exact ne_arr E1 (hw _ (List.mem_of_getElem? (i := 8) rfl)) Az
  have K1 : ∀ t, Steps p.tables e below (s₁.setTop (mkF m 1 #[.val (.ref a1), .val (.ref a2), .val (.int (0 : Int32)), .val (.int (2 : Int32)), .val .null, .unset] [(.ref a1)])) t → Steps p.tables e below G t := by
    intro t k
    refine pre0 t ?_
    show Steps p.tables e below (s₁.setTop (mkF m 0 #[.val (.ref a1), .val (.ref a2), .val (.int (0 : Int32)), .val (.int (2 : Int32)), .val .null, .unset] [])) _
    refine XS.aloadN X0.here hx rfl (hb hby d4_0) rfl rfl ?_
    show Steps p.tables e below (s₁.setTop (mkF m 1 #[.val (.ref a1), .val (.ref a2), .val (.int (0 : Int32)), .val (.int (2 : Int32)), .val .null, .unset] [(.ref a1)])) _
    exact k
  obtain ⟨T2, X2, e2, st2⟩ := initO X0 hx hZ hown (hw _ (List.mem_of_getElem? (i := 18) rfl)) (hw _ (List.mem_of_getElem? (i := 19) rfl)) (hw _ (List.mem_of_getElem? (i := 20) rfl)) e0 (g := (mkF m 1 #[.val (.ref a1), .val (.ref a2), .val (.int (0 : Int32)), .val (.int (2 : Int32)), .val .null, .unset] [(.ref a1)])) rfl (by rw [hml]; rfl) rfl (hb hby d4_1) (by decide) (W := 0) (by show 2 * 0 + _ ≤ _; exact Nat.le_of_eq rfl) (by decide)
  have K3 : ∀ t, Steps p.tables e below (T2.setTop (mkF m 4 #[.val (.ref a1), .val (.ref a2), .val (.int (0 : Int32)), .val (.int (2 : Int32)), .val .null, .unset] [])) t → Steps p.tables e below G t := fun t k => K1 t (st2 t k)
  have K4 : ∀ t, Steps p.tables e below (T2.setTop (mkF m 27 #[.val (.ref a1), .val (.ref a2), .val (.int (0 : Int32)), .val (.int (2 : Int32)), .val .null, .unset] [])) t → Steps p.tables e below G t := by
    intro t k
    refine K3 t ?_
    show Steps p.tables e below (T2.setTop (mkF m 4 #[.val (.ref a1), .val (.ref a2), .val (.int (0 : Int32)), .val (.int (2 : Int32)), .val .null, .unset] [])) _
    refine XS.iloadN X2.here hx rfl (hb hby d4_4) rfl ?_
    show Steps p.tables e below (T2.setTop (mkF m 5 #[.val (.ref a1), .val (.ref a2), .val (.int (0 : Int32)), .val (.int (2 : Int32)), .val .null, .unset] [(.int (2 : Int32))])) _
    refine XS.ifYes X2.here hx rfl (pc0 := 5) (pc' := 27) rfl (hb hby d4_5) rfl ((if0 _ _).trans (feq (by decide)).2) (by decide) (by decide) ?_
    show Steps p.tables e below (T2.setTop (mkF m 27 #[.val (.ref a1), .val (.ref a2), .val (.int (0 : Int32)), .val (.int (2 : Int32)), .val .null, .unset] [])) _
    exact k
  obtain ⟨T5, X5, e5, st5⟩ := getS2 X2 hx hZ hown (host := "") (Or.inl (hw _ (List.mem_of_getElem? (i := 21) rfl))) Via.refl e2 (Sta.ext O0.2 SC) (g := (mkF m 27 #[.val (.ref a1), .val (.ref a2), .val (.int (0 : Int32)), .val (.int (2 : Int32)), .val .null, .unset] [])) rfl (hb hby d4_27)
  have K6 : ∀ t, Steps p.tables e below (T5.setTop (mkF m 30 #[.val (.ref a1), .val (.ref a2), .val (.int (0 : Int32)), .val (.int (2 : Int32)), .val .null, .unset] [(.int cs)])) t → Steps p.tables e below G t := fun t k => K4 t (st5 t k)
  have K7 : ∀ t, Steps p.tables e below (T5.setTop (mkF m 36 #[.val (.ref a1), .val (.ref a2), .val (.int (0 : Int32)), .val (.int (2 : Int32)), .val .null, .unset] [(.int (2 : Int32)), (.int (0 : Int32)), (.ref a2)])) t → Steps p.tables e below G t := by
    intro t k
    refine K6 t ?_
    show Steps p.tables e below (T5.setTop (mkF m 30 #[.val (.ref a1), .val (.ref a2), .val (.int (0 : Int32)), .val (.int (2 : Int32)), .val .null, .unset] [(.int cs)])) _
    refine XS.ifNo X5.here hx rfl (hb hby d4_30) rfl ((if0 _ _).trans (feq hcs).1) ?_
    show Steps p.tables e below (T5.setTop (mkF m 33 #[.val (.ref a1), .val (.ref a2), .val (.int (0 : Int32)), .val (.int (2 : Int32)), .val .null, .unset] [])) _
    refine XS.aloadN X5.here hx rfl (hb hby d4_33) rfl rfl ?_
    show Steps p.tables e below (T5.setTop (mkF m 34 #[.val (.ref a1), .val (.ref a2), .val (.int (0 : Int32)), .val (.int (2 : Int32)), .val .null, .unset] [(.ref a2)])) _
    refine XS.iloadN X5.here hx rfl (hb hby d4_34) rfl ?_
    show Steps p.tables e below (T5.setTop (mkF m 35 #[.val (.ref a1), .val (.ref a2), .val (.int (0 : Int32)), .val (.int (2 : Int32)), .val .null, .unset] [(.int (0 : Int32)), (.ref a2)])) _
    refine XS.iloadN X5.here hx rfl (hb hby d4_35) rfl ?_
    show Steps p.tables e below (T5.setTop (mkF m 36 #[.val (.ref a1), .val (.ref a2), .val (.int (0 : Int32)), .val (.int (2 : Int32)), .val .null, .unset] [(.int (2 : Int32)), (.int (0 : Int32)), (.ref a2)])) _
    exact k
  obtain ⟨_, _, ⟨T8, L8, kk8, nn8⟩, -, X8, ⟨Lc8, hQ8, lq8, yq8, zq8⟩, st8⟩ := Jvm.LawKit.callS X5 hx (y := (⟨"java/lang/StringUTF16", "compress", "([CII)[B"⟩ : MethodName)) hown (mvT hZ (hw _ (List.mem_of_getElem? (i := 22) rfl))) (mvT hZ (hw _ (List.mem_of_getElem? (i := 23) rfl))) (mvT hZ (hw _ (List.mem_of_getElem? (i := 24) rfl))) (mvT hZ (hw _ (List.mem_of_getElem? (i := 25) rfl))) (by decide) (backOf (W := 0) (rm6_2 l Z a0 hw [] a2 k2 ee0 ee1 h0 n0 Z0 V2 hec0 hec1) hZ (hw _ (List.mem_of_getElem? (i := 25) rfl)) (hw _ (List.mem_of_getElem? (i := 24) rfl)) (by decide) (by decide)) (g := (mkF m 36 #[.val (.ref a1), .val (.ref a2), .val (.int (0 : Int32)), .val (.int (2 : Int32)), .val .null, .unset] [(.int (2 : Int32)), (.int (0 : Int32)), (.ref a2)])) rfl (by rw [hml]; rfl) (argsL := [(.ref a2), (.int (0 : Int32)), (.int (2 : Int32))]) (rest := []) (lenOf pd_1 rfl) rfl (by show 2 * 0 + _ ≤ _; exact Nat.le_of_eq rfl) (hb hby d4_36) (fun _ _ => ⟨rfl, e5, (by decide : 0 + 1 ≤ _), (by decide : 0 + 2 ≤ _)⟩)
  dsimp only [Pt.U, Pt.locs, Pt.cells, Pt.slots] at X8 lq8 yq8 zq8 st8 hQ8
  subst lq8 yq8 zq8
  obtain ⟨b8, kb8, rfl, Nq8, K8, sz8, V8⟩ := hQ8
  have N9 := Fr.app N0 Nq8
  have ne_a1_b8 : a1 ≠ b8 := Nat.ne_of_lt (Nat.lt_of_lt_of_le E1.lt sz8)
  have ne_a2_b8 : a2 ≠ b8 := Nat.ne_of_lt (Nat.lt_of_lt_of_le V2.lt sz8)
  have g_b8 : n0 ≤ b8 := Nat.le_trans Z0 sz8
  have sz_b8 : h0.size ≤ b8 := Nat.le_trans KP0.1 sz8
  have f10 := E1.keep K8
  have f11 := F1.keep K8 nin0
  have f12 := F2.keep K8 nin0
  have f13 := V2.keep K8 nin0
  have f14 := O0.keep K8 all0
  have Z15 : n0 ≤ T8.heap.size := Nat.le_trans Z0 K8.1
  have KP16 : Keep h0 T8.heap [a1] := KP0.trans K8 all0
  have K17 : ∀ t, Steps p.tables e below (T8.setTop (mkF m 39 #[.val (.ref a1), .val (.ref a2), .val (.int (0 : Int32)), .val (.int (2 : Int32)), .val .null, .unset] [(.ref b8)])) t → Steps p.tables e below G t := fun t k => K7 t (st8 _ k)
  have K18 : ∀ t, Steps p.tables e below (T8.setTop (mkF m 45 #[.val (.ref a1), .val (.ref a2), .val (.int (0 : Int32)), .val (.int (2 : Int32)), .val .null, .val (.ref b8)] [(.int (2 : Int32)), (.ref b8), (.ref a1)])) t → Steps p.tables e below G t := by
    intro t k
    refine K17 t ?_
    show Steps p.tables e below (T8.setTop (mkF m 39 #[.val (.ref a1), .val (.ref a2), .val (.int (0 : Int32)), .val (.int (2 : Int32)), .val .null, .unset] [(.ref b8)])) _
    refine XS.astore X8.here hx rfl (hb hby d4_39) rfl rfl (l' := #[.val (.ref a1), .val (.ref a2), .val (.int (0 : Int32)), .val (.int (2 : Int32)), .val .null, .val (.ref b8)]) rfl ?_
    show Steps p.tables e below (T8.setTop (mkF m 41 #[.val (.ref a1), .val (.ref a2), .val (.int (0 : Int32)), .val (.int (2 : Int32)), .val .null, .val (.ref b8)] [])) _
    refine XS.aloadN X8.here hx rfl (hb hby d4_41) rfl rfl ?_
    show Steps p.tables e below (T8.setTop (mkF m 42 #[.val (.ref a1), .val (.ref a2), .val (.int (0 : Int32)), .val (.int (2 : Int32)), .val .null, .val (.ref b8)] [(.ref a1)])) _
    refine XS.aload X8.here hx rfl (hb hby d4_42) rfl rfl ?_
    show Steps p.tables e below (T8.setTop (mkF m 44 #[.val (.ref a1), .val (.ref a2), .val (.int (0 : Int32)), .val (.int (2 : Int32)), .val .null, .val (.ref b8)] [(.ref b8), (.ref a1)])) _
    refine XS.iloadN X8.here hx rfl (hb hby d4_44) rfl ?_
    show Steps p.tables e below (T8.setTop (mkF m 45 #[.val (.ref a1), .val (.ref a2), .val (.int (0 : Int32)), .val (.int (2 : Int32)), .val .null, .val (.ref b8)] [(.int (2 : Int32)), (.ref b8), (.ref a1)])) _
    exact k
  obtain ⟨_, _, ⟨T19, L19, kk19, nn19⟩, -, X19, ⟨Lc19, hQ19, lq19, yq19, zq19⟩, st19⟩ := Jvm.LawKit.callS X8 hx (y := (⟨"java/lang/StringUTF16", "coderFromArrayLen", "([BI)B"⟩ : MethodName)) hown (mvT hZ (hw _ (List.mem_of_getElem? (i := 30) rfl))) (mvT hZ (hw _ (List.mem_of_getElem? (i := 31) rfl))) (mvT hZ (hw _ (List.mem_of_getElem? (i := 24) rfl))) (mvT hZ (hw _ (List.mem_of_getElem? (i := 32) rfl))) (by decide) (backOf (W := 1) (rm8_2 l Z a0 hw [] b8 kb8 [(.int (nar .byte (ee0.toInt8.toInt32))), (.int (nar .byte (ee1.toInt8.toInt32)))] T8.heap n0 Z15 V8) hZ (hw _ (List.mem_of_getElem? (i := 32) rfl)) (hw _ (List.mem_of_getElem? (i := 24) rfl)) (by decide) (by decide)) (g := (mkF m 45 #[.val (.ref a1), .val (.ref a2), .val (.int (0 : Int32)), .val (.int (2 : Int32)), .val .null, .val (.ref b8)] [(.int (2 : Int32)), (.ref b8), (.ref a1)])) rfl (by rw [hml]; rfl) (argsL := [(.ref b8), (.int (2 : Int32))]) (rest := [(.ref a1)]) (lenOf pd_2 rfl) rfl (by show 2 * 0 + _ ≤ _; exact Nat.le_of_eq rfl) (hb hby d4_45) (fun _ _ => ⟨rfl, rfl, (by decide : 1 + 0 ≤ _), (by decide : 2 + 0 ≤ _)⟩)
  dsimp only [Pt.U, Pt.locs, Pt.cells, Pt.slots] at X19 lq19 yq19 zq19 st19 hQ19
  subst lq19 yq19 zq19
  obtain ⟨rfl, Nq19, e19⟩ := hQ19
  have N20 := Fr.app N9 Nq19
  have K21 : ∀ t, Steps p.tables e below (T19.setTop (mkF m 48 #[.val (.ref a1), .val (.ref a2), .val (.int (0 : Int32)), .val (.int (2 : Int32)), .val .null, .val (.ref b8)] [(.int (0 : Int32)), (.ref a1)])) t → Steps p.tables e below G t := fun t k => K18 t (st19 _ k)
  obtain ⟨T22, h22, X22, e22, W22, st22⟩ := putFN X19 hx hZ hown (hw _ (List.mem_of_getElem? (i := 33) rfl)) Via.refl e19 f12 f10 (Or.inr ⟨(hw _ (List.mem_of_getElem? (i := 34) rfl)), rfl, hnm⟩) (hw _ (List.mem_of_getElem? (i := 8) rfl)) (ty := .byte) (v' := (.int ((0 : Int32).toInt8.toInt32))) (by decide) rfl (fits_nar_byte _) (g := (mkF m 48 #[.val (.ref a1), .val (.ref a2), .val (.int (0 : Int32)), .val (.int (2 : Int32)), .val .null, .val (.ref b8)] [(.int (0 : Int32)), (.ref a1)])) rfl rfl (hb hby d4_48)
  have K23 : ∀ t, Steps p.tables e below (T22.setTop (mkF m 51 #[.val (.ref a1), .val (.ref a2), .val (.int (0 : Int32)), .val (.int (2 : Int32)), .val .null, .val (.ref b8)] [])) t → Steps p.tables e below G t := fun t k => K21 t (st22 t k)
  have f24 := f10.wr W22
  have f25 := f11.other W22 (Or.inr (slot_ne (Or.inr (hw _ (List.mem_of_getElem? (i := 36) rfl))) (Or.inr (hw _ (List.mem_of_getElem? (i := 34) rfl))) (by decide) (t := (.array .byte)) (t' := .byte) (by decide) (by decide)))
  have f26 := f12.same W22
  have f27 := f13.other W22 (Ne.symm ne12)
  have f28 := f14.wr W22 g1
  have f29 := V8.other W22 (Ne.symm ne_a1_b8)
  have Z30 : n0 ≤ h22.size := Nat.le_trans Z15 (Keep.of_wr W22).1
  have KP31 : Keep h0 h22 [a1] := KP16.wr W22 (Or.inl (List.mem_of_getElem? (i := 0) rfl))
  have N32 := Fr.snoc X22 N20 g1
  have K33 : ∀ t, Steps p.tables e below (T22.setTop (mkF m 54 #[.val (.ref a1), .val (.ref a2), .val (.int (0 : Int32)), .val (.int (2 : Int32)), .val .null, .val (.ref b8)] [(.ref b8), (.ref a1)])) t → Steps p.tables e below G t := by
    intro t k
    refine K23 t ?_
    show Steps p.tables e below (T22.setTop (mkF m 51 #[.val (.ref a1), .val (.ref a2), .val (.int (0 : Int32)), .val (.int (2 : Int32)), .val .null, .val (.ref b8)] [])) _
    refine XS.aloadN X22.here hx rfl (hb hby d4_51) rfl rfl ?_
    show Steps p.tables e below (T22.setTop (mkF m 52 #[.val (.ref a1), .val (.ref a2), .val (.int (0 : Int32)), .val (.int (2 : Int32)), .val .null, .val (.ref b8)] [(.ref a1)])) _
    refine XS.aload X22.here hx rfl (hb hby d4_52) rfl rfl ?_
    show Steps p.tables e below (T22.setTop (mkF m 54 #[.val (.ref a1), .val (.ref a2), .val (.int (0 : Int32)), .val (.int (2 : Int32)), .val .null, .val (.ref b8)] [(.ref b8), (.ref a1)])) _
    exact k
  obtain ⟨T34, h34, X34, e34, W34, st34⟩ := putF X22 hx hZ hown (host := "") (Or.inl (hw _ (List.mem_of_getElem? (i := 35) rfl))) Via.refl e22 f25 f24 (Or.inr ⟨(hw _ (List.mem_of_getElem? (i := 36) rfl)), rfl, hnm⟩) (hw _ (List.mem_of_getElem? (i := 8) rfl)) (ty := (.array .byte)) (by decide) rfl rfl (g := (mkF m 54 #[.val (.ref a1), .val (.ref a2), .val (.int (0 : Int32)), .val (.int (2 : Int32)), .val .null, .val (.ref b8)] [(.ref b8), (.ref a1)])) rfl rfl (hb hby d4_54)
  have K35 : ∀ t, Steps p.tables e below (T34.setTop (mkF m 57 #[.val (.ref a1), .val (.ref a2), .val (.int (0 : Int32)), .val (.int (2 : Int32)), .val .null, .val (.ref b8)] [])) t → Steps p.tables e below G t := fun t k => K33 t (st34 t k)
  have f36 := f24.wr W34
  have f37 := f25.same W34
  have f38 := f26.other W34 (Or.inr (slot_ne (Or.inr (hw _ (List.mem_of_getElem? (i := 34) rfl))) (Or.inr (hw _ (List.mem_of_getElem? (i := 36) rfl))) (by decide) (t := .byte) (t' := (.array .byte)) (by decide) (by decide)))
  have f39 := f27.other W34 (Ne.symm ne12)
  have f40 := f28.wr W34 g1
  have f41 := f29.other W34 (Ne.symm ne_a1_b8)
  have Z42 : n0 ≤ h34.size := Nat.le_trans Z30 (Keep.of_wr W34).1
  have KP43 : Keep h0 h34 [a1] := KP31.wr W34 (Or.inl (List.mem_of_getElem? (i := 0) rfl))
  have N44 := Fr.snoc X34 N32 g1
  obtain ⟨fs, hr, hrun, hended, hW, hsame⟩ := X34.leave (v := none) (fun _ => rfl)
  have KF := K35
  rw [hG] at KF
  refine ⟨_, _, KF _ ?_, hrun, hended, _, _, rfl, ?_, ⟨_, rfl⟩, hW, hsame.mono (by decide) (by decide)⟩
  · show Steps p.tables e below (T34.setTop (mkF m 57 #[.val (.ref a1), .val (.ref a2), .val (.int (0 : Int32)), .val (.int (2 : Int32)), .val .null, .val (.ref b8)] [])) _
    exact X34.returnOut hx Bd.returns (hb hby d4_57) hr
  · show Q4_2 Z a1 ee0 ee1 h0 n0 _ T34.heap _
    rw [e34]
    exact ⟨b8, _, rfl, N44, KP43, sz_b8, f36, f37, f38, f41⟩
def Q3_2 (Z : State) (a1 : Addr) (ee0 ee1 : Int32) (h0 : Heap) (n0 : Nat) (v : Option Value) (h : Heap) (L : List Loc) : Prop := ∃ (b : Addr) (k : ClassId), v = none ∧ Fr n0 L ∧ Keep h0 h [a1] ∧ h0.size ≤ b ∧ Exa Z h a1 "java/lang/String" ∧ Fld Z h a1 "java/lang/String" "value" "[B" (.ref b) ∧ Fld Z h a1 "java/lang/String" "coder" "B" (.int (0 : Int32)) ∧ Arv Z h b k .byte (2 : Int32) [(.int (nar .byte (ee0.toInt8.toInt32))), (.int (nar .byte (ee1.toInt8.toInt32)))] (.int (0 : Int32))
theorem ef_rm3_2 (m : MethodId) (x0 : Addr) (x1 : Addr) : entryFrame m #[(.ref x0), (.ref x1)] 2 = mkF m 0 #[.val (.ref x0), .val (.ref x1)] [] := by first | (simp [entryFrame, mkF, argsToLocals, Value.category]; done) | rfl
set_option maxRecDepth 65536 in
set_option maxHeartbeats 40000000 in
theorem rm3_2 (l : Launch) (Z : State) (a0 : Array Value) (hw : ∀ d ∈ tables_1, d.before a0 Z = true) (ws : List Jvm.Cond) (a1 a2 : Addr) (k2 : ClassId) (cs : Int32) (ee0 ee1 : Int32) (h0 : Heap) (n0 : Nat) (Z0 : n0 ≤ h0.size) (E1 : Exa Z h0 a1 "java/lang/String") (F1 : Fld Z h0 a1 "java/lang/String" "value" "[B" .null) (F2 : Fld Z h0 a1 "java/lang/String" "coder" "B" (.int (0 : Int32))) (V2 : Arv Z h0 a2 k2 .char (2 : Int32) [(.int ee0), (.int ee1)] (.int (0 : Int32))) (g1 : n0 ≤ a1) (SC : Sta Z Z.heap "java/lang/String" "COMPACT_STRINGS" "Z" (.int cs)) (hcs : ¬ cs = 0) (O0 : Old Z n0 h0) (hec0 : ¬ (255 : Int32) < ee0) (hec1 : ¬ (255 : Int32) < ee1) :
    MetFree l (⟨"java/lang/String", "<init>", "([C)V"⟩ : MethodName) (head1 (Jvm.Cond.code (⟨"java/lang/String", "<init>", "([C)V"⟩ : MethodName) jdk_42_method_3_code 2 none :: ws) ({ frames := 3, cells := 1, slots := 2, locals := 52 } : Room)) (fun a U => a = #[(.ref a1), (.ref a2)] ∧ Z.Warmed39 U.vm ∧ U.heap = h0) (fun _ _ _ _ _ => True) (fun _ U o U' => ∃ v L, o = .returned v ∧ Q3_2 Z a1 ee0 ee1 h0 n0 v U'.heap L ∧ FrameEnd U o U' L ({ frames := 3, cells := 1, slots := 2, locals := 52 } : Room).cells ({ frames := 3, cells := 1, slots := 2, locals := 52 } : Room).slots) := by
  refine MetFree.of_bodySF (plainFor_of_name pn_java_lang_String) hisR ?_
  intro p e s m args below meth c s₁ Bd hml0 hP hK
  obtain ⟨rfl, hZ, hh⟩ := hP
  have hx := Bd.exec
  have hby := Bd.bytes
  have hml : c.maxLocals = 2 := hml0
  have hown : s.vm.findClass "java/lang/String" = some m.cls := findClass_of_methodNamed Bd.named
  have hnm := (name_of_methodNamed Bd.named Bd.method).1
  have X0 : Stand p l e ({ frames := 3, cells := 1, slots := 2, locals := 52 } : Room) s m #[(.ref a1), (.ref a2)] below meth c s₁ [] 0 0 := Stand.of_body Bd
  have e0 : s₁.heap = h0 := by rw [← hh, Bd.state]; rfl
  have N0 := Fr.nil n0
  have KP0 : Keep h0 h0 [a1] := Keep.refl h0 _
  obtain ⟨G, hG⟩ : ∃ G : State, G = s₁.setTop (entryFrame m #[(.ref a1), (.ref a2)] 2) := ⟨_, rfl⟩
  have pre0 : ∀ t, Steps p.tables e below (s₁.setTop (mkF m 0 #[.val (.ref a1), .val (.ref a2)] [])) t → Steps p.tables e below G t := fun t k => hG ▸ castTop (ef_rm3_2 m a1 a2) k
  have ne12 : a1 ≠ a2 := by obtain ⟨cz, Az, -⟩ := V2; exact ne_arr E1 (hw _ (List.mem_of_getElem? (i := 8) rfl)) Az
  have K1 : ∀ t, Steps p.tables e below (s₁.setTop (mkF m 4 #[.val (.ref a1), .val (.ref a2)] [(.ref a2), (.int (0 : Int32)), (.ref a2), (.ref a1)])) t → Steps p.tables e below G t := by
    intro t k
    refine pre0 t ?_
    show Steps p.tables e below (s₁.setTop (mkF m 0 #[.val (.ref a1), .val (.ref a2)] [])) _
    refine XS.aloadN X0.here hx rfl (hb hby d3_0) rfl rfl ?_
    show Steps p.tables e below (s₁.setTop (mkF m 1 #[.val (.ref a1), .val (.ref a2)] [(.ref a1)])) _
    refine XS.aloadN X0.here hx rfl (hb hby d3_1) rfl rfl ?_
    show Steps p.tables e below (s₁.setTop (mkF m 2 #[.val (.ref a1), .val (.ref a2)] [(.ref a2), (.ref a1)])) _
    refine XS.iconst X0.here hx rfl (hb hby d3_2) ?_
    show Steps p.tables e below (s₁.setTop (mkF m 3 #[.val (.ref a1), .val (.ref a2)] [(.int (0 : Int32)), (.ref a2), (.ref a1)])) _
    refine XS.aloadN X0.here hx rfl (hb hby d3_3) rfl rfl ?_
    show Steps p.tables e below (s₁.setTop (mkF m 4 #[.val (.ref a1), .val (.ref a2)] [(.ref a2), (.int (0 : Int32)), (.ref a2), (.ref a1)])) _
    exact k
  obtain ⟨cl2, Ar2, -, S2, M2, -, -⟩ := id V2
  have K3 : ∀ t, Steps p.tables e below (s₁.setTop (mkF m 5 #[.val (.ref a1), .val (.ref a2)] [(.int (2 : Int32)), (.int (0 : Int32)), (.ref a2), (.ref a1)])) t → Steps p.tables e below G t := by
    intro t k
    refine K1 t ?_
    refine X0.arraylength hx (by rw [e0]; exact Ar2.1) (State.isArrayOf_alike hZ.alike Ar2.2.1) (g := (mkF m 4 #[.val (.ref a1), .val (.ref a2)] [(.ref a2), (.int (0 : Int32)), (.ref a2), (.ref a1)])) rfl rfl (hb hby d3_4) _ ?_
    rw [len_of S2 M2]
    exact k
  have K4 : ∀ t, Steps p.tables e below (s₁.setTop (mkF m 6 #[.val (.ref a1), .val (.ref a2)] [.null, (.int (2 : Int32)), (.int (0 : Int32)), (.ref a2), (.ref a1)])) t → Steps p.tables e below G t := by
    intro t k
    refine K3 t ?_
    show Steps p.tables e below (s₁.setTop (mkF m 5 #[.val (.ref a1), .val (.ref a2)] [(.int (2 : Int32)), (.int (0 : Int32)), (.ref a2), (.ref a1)])) _
    refine XS.aconstNull X0.here hx rfl (hb hby d3_5) ?_
    show Steps p.tables e below (s₁.setTop (mkF m 6 #[.val (.ref a1), .val (.ref a2)] [.null, (.int (2 : Int32)), (.int (0 : Int32)), (.ref a2), (.ref a1)])) _
    exact k
  obtain ⟨_, _, ⟨T5, L5, kk5, nn5⟩, -, X5, ⟨Lc5, hQ5, lq5, yq5, zq5⟩, st5⟩ := X0.specialBack hx (y := (⟨"java/lang/String", "<init>", "([CIILjava/lang/Void;)V"⟩ : MethodName)) rfl hown (mvT hZ (hw _ (List.mem_of_getElem? (i := 14) rfl))) (mvT hZ (hw _ (List.mem_of_getElem? (i := 15) rfl))) (mvT hZ (hw _ (List.mem_of_getElem? (i := 17) rfl))) (by decide) (backOf (W := 0) (rm4_2 l Z a0 hw [] a1 a2 k2 cs ee0 ee1 h0 n0 Z0 E1 F1 F2 V2 g1 SC hcs O0 hec0 hec1) hZ (hw _ (List.mem_of_getElem? (i := 17) rfl)) (hw _ (List.mem_of_getElem? (i := 9) rfl)) (by decide) (by decide)) (g := (mkF m 6 #[.val (.ref a1), .val (.ref a2)] [.null, (.int (2 : Int32)), (.int (0 : Int32)), (.ref a2), (.ref a1)])) rfl (by rw [hml]; rfl) (Steps.refl _) (a := a1) (argsL := [(.ref a2), (.int (0 : Int32)), (.int (2 : Int32)), .null]) (rest := []) (lenOf pd_3 rfl) rfl (by show 2 * 0 + _ ≤ _; exact Nat.le_of_eq rfl) (hb hby d3_6) (fun _ _ => ⟨rfl, e0, (by decide : 0 + 1 ≤ _), (by decide : 0 + 2 ≤ _)⟩)
  dsimp only [Pt.U, Pt.locs, Pt.cells, Pt.slots] at X5 lq5 yq5 zq5 st5 hQ5
  subst lq5 yq5 zq5
  obtain ⟨b5, kb5, rfl, Nq5, K5, sz5, E5', Fv5, Fc5, Vb5⟩ := hQ5
  have N6 := Fr.app N0 Nq5
  have ne_a1_b5 : a1 ≠ b5 := Nat.ne_of_lt (Nat.lt_of_lt_of_le E1.lt sz5)
  have ne_a2_b5 : a2 ≠ b5 := Nat.ne_of_lt (Nat.lt_of_lt_of_le V2.lt sz5)
  have g_b5 : n0 ≤ b5 := Nat.le_trans Z0 sz5
  have sz_b5 : h0.size ≤ b5 := Nat.le_trans KP0.1 sz5
  have f7 := E1.keep K5
  have f8 := V2.keep K5 (ninS (Ne.symm ne12) nin0)
  have f9 := O0.keep K5 (allS g1 all0)
  have Z10 : n0 ≤ T5.heap.size := Nat.le_trans Z0 K5.1
  have KP11 : Keep h0 T5.heap [a1] := KP0.trans K5 (allS (Or.inl (List.mem_of_getElem? (i := 0) rfl)) all0)
  have K12 : ∀ t, Steps p.tables e below (T5.setTop (mkF m 9 #[.val (.ref a1), .val (.ref a2)] [])) t → Steps p.tables e below G t := fun t k => K4 t (st5.trans k)
  obtain ⟨fs, hr, hrun, hended, hW, hsame⟩ := X5.leave (v := none) (fun _ => rfl)
  have KF := K12
  rw [hG] at KF
  refine ⟨_, _, KF _ ?_, hrun, hended, _, _, rfl, ?_, ⟨_, rfl⟩, hW, hsame.mono (by decide) (by decide)⟩
  · show Steps p.tables e below (T5.setTop (mkF m 9 #[.val (.ref a1), .val (.ref a2)] [])) _
    exact X5.returnOut hx Bd.returns (hb hby d3_9) hr
  · show Q3_2 Z a1 ee0 ee1 h0 n0 _ T5.heap _
    exact ⟨b5, _, rfl, N6, KP11, sz_b5, E5', Fv5, Fc5, Vb5⟩
abbrev own_EL : List (String × Nat) := [("java/lang/String", 7)]
theorem own_safe {Z : State} {EL : List (String × Nat)} {vm : Vm} {h : Heap} {a : Addr} {a0 : Array Value} (hal : Z.vm.Alike vm) (F : Fld Z h a "java/lang/String" "value" "[B" .null) (E : Exa Z h a "java/lang/String") (wi : (Jvm.Cond.instantiable "java/lang/String" 4).before a0 Z = true) : Safe Z EL vm h a := fun B => by
  obtain ⟨p, hp, u, a', hb, q, hq, ⟨cS, ⟨⟨s1, s2, s3, ⟨cv, kv, iv, s4, s4'⟩, -, s6, s7, s8, s9, s10, s11, s12, -⟩, -, -⟩, -, hB, -⟩, hy⟩ := B
  rcases hy with hy | hy
  · subst hy
    obtain ⟨kv', z4⟩ := ff_back (U := Wst Z vm h) hal s4
    obtain ⟨cell, cf, k, i, f, f1, f2, f3, f4, f5, f6, f7⟩ := F
    have e1 : cell = q.sC := Option.some.inj (f1.symm.trans s1)
    have e2 := Option.some.inj (f2.symm.trans z4)
    have e3 : f = q.fSV := by injection e2 with a b; injection b with c d; injection d
    rw [e1, e3, s8] at f7
    cases f7
  · subst hy
    obtain ⟨cell, k, e1, e2, -⟩ := E
    have ec : cell = q.SA := Option.some.inj (e1.symm.trans s10)
    rw [ec] at e2
    have hB' : Z.vm.findClass "[B" = some q.SA.cls := (hal.findClass _ _).symm.trans hB
    exact ids_ne e2 hB' (by decide) rfl
theorem own_wS {Z : State} {a0 : Array Value} (hw : ∀ d ∈ tables_1, d.before a0 Z = true) : ∀ a ∈ Bundle.stringAtoms, a.before a0 Z = true := fun a ha => by
  simp only [Bundle.stringAtoms, Bundle.sN, List.mem_cons, List.not_mem_nil, or_false] at ha
  rcases ha with rfl | rfl | rfl | rfl | rfl | rfl | rfl
  · exact (hw _ (List.mem_of_getElem? (i := 9) rfl))
  · exact (hw _ (List.mem_of_getElem? (i := 8) rfl))
  · exact (hw _ (List.mem_of_getElem? (i := 26) rfl))
  · exact (hw _ (List.mem_of_getElem? (i := 36) rfl))
  · exact (hw _ (List.mem_of_getElem? (i := 34) rfl))
  · exact (hw _ (List.mem_of_getElem? (i := 38) rfl))
  · exact (hw _ (List.mem_of_getElem? (i := 39) rfl))
def Q4_0 (Z : State) (a1 : Addr) (h0 : Heap) (n0 : Nat) (v : Option Value) (h : Heap) (L : List Loc) : Prop := ∃ (b : Addr) (k : ClassId), v = none ∧ Fr n0 L ∧ Keep h0 h [a1] ∧ Exa Z h a1 "java/lang/String" ∧ Fld Z h a1 "java/lang/String" "value" "[B" (.ref b) ∧ Fld Z h a1 "java/lang/String" "coder" "B" (.int (0 : Int32)) ∧ Arv Z h b k .byte (0 : Int32) [] (.int (0 : Int32))
theorem ef_rm4_0 (m : MethodId) (x0 : Addr) (x1 : Addr) : entryFrame m #[(.ref x0), (.ref x1), (.int (0 : Int32)), (.int (0 : Int32)), .null] 6 = mkF m 0 #[.val (.ref x0), .val (.ref x1), .val (.int (0 : Int32)), .val (.int (0 : Int32)), .val .null, .unset] [] := by first | (simp [entryFrame, mkF, argsToLocals, Value.category]; done) | rfl
set_option maxRecDepth 65536 in
set_option maxHeartbeats 40000000 in
theorem rm4_0 (l : Launch) (Z : State) (a0 : Array Value) (hw : ∀ d ∈ tables_1, d.before a0 Z = true) (ws : List Jvm.Cond) (a1 a2 : Addr) (k2 : ClassId) (h0 : Heap) (n0 : Nat) (Z0 : n0 ≤ h0.size) (hEL : EW Z a0 own_EL) (E1 : Exa Z h0 a1 "java/lang/String") (F1 : Fld Z h0 a1 "java/lang/String" "value" "[B" .null) (F2 : Fld Z h0 a1 "java/lang/String" "coder" "B" (.int (0 : Int32))) (V2 : Arv Z h0 a2 k2 .char (0 : Int32) [] (.int (0 : Int32))) (g1 : n0 ≤ a1) :
    MetFree l (⟨"java/lang/String", "<init>", "([CIILjava/lang/Void;)V"⟩ : MethodName) (head1 (Jvm.Cond.code (⟨"java/lang/String", "<init>", "([CIILjava/lang/Void;)V"⟩ : MethodName) jdk_42_method_149_code 6 none :: ws) ({ frames := 1, cells := 4, slots := 8, locals := 12 } : Room)) (fun a U => a = #[(.ref a1), (.ref a2), (.int (0 : Int32)), (.int (0 : Int32)), .null] ∧ Z.Warmed39 U.vm ∧ U.heap = h0 ∧ CHv Z own_EL U.vm h0) (fun _ _ _ _ _ => True) (fun _ U o U' => ∃ v L, o = .returned v ∧ Q4_0 Z a1 h0 n0 v U'.heap L ∧ CHr Z own_EL U.vm U.heap U'.vm U'.heap ∧ ReturnedEndW U o U' L ({ frames := 1, cells := 4, slots := 8, locals := 12 } : Room).cells ({ frames := 1, cells := 4, slots := 8, locals := 12 } : Room).slots) := by
  refine MetFree.of_bodySF (plainFor_of_name pn_java_lang_String) hisR ?_
  intro p e s m args below meth c s₁ Bd hml0 hP hK
  obtain ⟨rfl, hZ, hh, hCH⟩ := hP
  have hx := Bd.exec
  have hby := Bd.bytes
  have hml : c.maxLocals = 6 := hml0
  have hown : s.vm.findClass "java/lang/String" = some m.cls := findClass_of_methodNamed Bd.named
  have hnm := (name_of_methodNamed Bd.named Bd.method).1
  have X0 : Stand p l e ({ frames := 1, cells := 4, slots := 8, locals := 12 } : Room) (s.setVm s.vm) m #[(.ref a1), (.ref a2), (.int (0 : Int32)), (.int (0 : Int32)), .null] below meth c s₁ [] 0 0 := Stand.of_body Bd
  have e0 : s₁.heap = h0 := by rw [← hh, Bd.state]; rfl
  have N0 := Fr.nil n0
  have KP0 : Keep h0 h0 [a1] := Keep.refl h0 _
  obtain ⟨G, hG⟩ : ∃ G : State, G = s₁.setTop (entryFrame m #[(.ref a1), (.ref a2), (.int (0 : Int32)), (.int (0 : Int32)), .null] 6) := ⟨_, rfl⟩
  have pre0 : ∀ t, Steps p.tables e below (s₁.setTop (mkF m 0 #[.val (.ref a1), .val (.ref a2), .val (.int (0 : Int32)), .val (.int (0 : Int32)), .val .null, .unset] [])) t → Steps p.tables e below G t := fun t k => hG ▸ castTop (ef_rm4_0 m a1 a2) k
  have hS0 : s.Since s.vm h0.size := (State.WarmedH.refl s).since _
  have kS0 : h0.size ≤ h0.size := Nat.le_refl _
  have CH0 : CHr Z own_EL s.vm h0 s.vm h0 := CHr.refl hCH
  have ne12 : a1 ≠ a2 := by obtain ⟨cz, Az, -⟩ := V2; exact ne_arr E1 (hw _ (List.mem_of_getElem? (i := 8) rfl)) Az
  have U1 : Safe Z own_EL s.vm h0 a1 := own_safe hZ.alike F1 E1 (hw _ (List.mem_of_getElem? (i := 8) rfl))
  have K1 : ∀ t, Steps p.tables e below (s₁.setTop (mkF m 1 #[.val (.ref a1), .val (.ref a2), .val (.int (0 : Int32)), .val (.int (0 : Int32)), .val .null, .unset] [(.ref a1)])) t → Steps p.tables e below G t := by
    intro t k
    refine pre0 t ?_
    show Steps p.tables e below (s₁.setTop (mkF m 0 #[.val (.ref a1), .val (.ref a2), .val (.int (0 : Int32)), .val (.int (0 : Int32)), .val .null, .unset] [])) _
    refine XS.aloadN X0.here hx rfl (hb hby d4_0) rfl rfl ?_
    show Steps p.tables e below (s₁.setTop (mkF m 1 #[.val (.ref a1), .val (.ref a2), .val (.int (0 : Int32)), .val (.int (0 : Int32)), .val .null, .unset] [(.ref a1)])) _
    exact k
  obtain ⟨T2, X2, e2, st2⟩ := initO X0 hx hZ hown (hw _ (List.mem_of_getElem? (i := 18) rfl)) (hw _ (List.mem_of_getElem? (i := 19) rfl)) (hw _ (List.mem_of_getElem? (i := 20) rfl)) e0 (g := (mkF m 1 #[.val (.ref a1), .val (.ref a2), .val (.int (0 : Int32)), .val (.int (0 : Int32)), .val .null, .unset] [(.ref a1)])) rfl (by rw [hml]; rfl) rfl (hb hby d4_1) (by decide) (W := 0) (by show 2 * 0 + _ ≤ _; exact Nat.le_of_eq rfl) (by decide)
  have K3 : ∀ t, Steps p.tables e below (T2.setTop (mkF m 4 #[.val (.ref a1), .val (.ref a2), .val (.int (0 : Int32)), .val (.int (0 : Int32)), .val .null, .unset] [])) t → Steps p.tables e below G t := fun t k => K1 t (st2 t k)
  have K4 : ∀ t, Steps p.tables e below (T2.setTop (mkF m 9 #[.val (.ref a1), .val (.ref a2), .val (.int (0 : Int32)), .val (.int (0 : Int32)), .val .null, .unset] [(.ref a1)])) t → Steps p.tables e below G t := by
    intro t k
    refine K3 t ?_
    show Steps p.tables e below (T2.setTop (mkF m 4 #[.val (.ref a1), .val (.ref a2), .val (.int (0 : Int32)), .val (.int (0 : Int32)), .val .null, .unset] [])) _
    refine XS.iloadN X2.here hx rfl (hb hby d4_4) rfl ?_
    show Steps p.tables e below (T2.setTop (mkF m 5 #[.val (.ref a1), .val (.ref a2), .val (.int (0 : Int32)), .val (.int (0 : Int32)), .val .null, .unset] [(.int (0 : Int32))])) _
    refine XS.ifNo X2.here hx rfl (hb hby d4_5) rfl ((if0 _ _).trans (teq (by decide)).2) ?_
    show Steps p.tables e below (T2.setTop (mkF m 8 #[.val (.ref a1), .val (.ref a2), .val (.int (0 : Int32)), .val (.int (0 : Int32)), .val .null, .unset] [])) _
    refine XS.aloadN X2.here hx rfl (hb hby d4_8) rfl rfl ?_
    show Steps p.tables e below (T2.setTop (mkF m 9 #[.val (.ref a1), .val (.ref a2), .val (.int (0 : Int32)), .val (.int (0 : Int32)), .val .null, .unset] [(.ref a1)])) _
    exact k
  obtain ⟨la5, T5, h5, k15, lb5, lk5, X5, e5, E5, hS5, kq5, hZ, hown, Es5, Fc5, Fv5, Va5, lt5, lu5, CHq5, Lt5, hsf5, st5⟩ := ldcCH (s := s) (vm0 := s.vm) X2 hx hZ hown (hw _ (List.mem_of_getElem? (i := 37) rfl)) (own_wS hw) e2 hS0 kS0 hEL (List.mem_singleton.mpr rfl) CH0.1 (vs := []) (z := 0) ⟨by intro c hc; simp at hc, by simp⟩ (by decide) rfl (g := (mkF m 9 #[.val (.ref a1), .val (.ref a2), .val (.int (0 : Int32)), .val (.int (0 : Int32)), .val .null, .unset] [(.ref a1)])) rfl (hb hby d4_9) (n := 0) (by decide) (by decide) (by decide) (by decide)
  have U6 := CHq5.safe E1.lt U1
  have ne_a1_la5 : a1 ≠ la5 := (hsf5 _ U6).1
  have ne_a1_lb5 : a1 ≠ lb5 := (hsf5 _ U6).2
  have CH7 := CH0.trans CHq5
  have K8 : ∀ t, Steps p.tables e below (T5.setTop (mkF m 11 #[.val (.ref a1), .val (.ref a2), .val (.int (0 : Int32)), .val (.int (0 : Int32)), .val .null, .unset] [(.ref la5), (.ref a1)])) t → Steps p.tables e below G t := fun t k => K4 t (st5 t k)
  have f9 := E1.ext E5
  have f10 := F1.ext E5
  have f11 := F2.ext E5
  have f12 := V2.ext E5
  have Z13 : n0 ≤ h5.size := Nat.le_trans Z0 E5.1
  have KP14 : Keep h0 h5 [a1] := KP0.ext E5
  obtain ⟨T15, X15, e15, st15⟩ := getF X5 hx hZ hown (host := "") (Or.inl (hw _ (List.mem_of_getElem? (i := 35) rfl))) Via.refl e5 Fv5 (g := (mkF m 11 #[.val (.ref a1), .val (.ref a2), .val (.int (0 : Int32)), .val (.int (0 : Int32)), .val .null, .unset] [(.ref la5), (.ref a1)])) rfl rfl (hb hby d4_11)
  have K16 : ∀ t, Steps p.tables e below (T15.setTop (mkF m 14 #[.val (.ref a1), .val (.ref a2), .val (.int (0 : Int32)), .val (.int (0 : Int32)), .val .null, .unset] [(.ref lb5), (.ref a1)])) t → Steps p.tables e below G t := fun t k => K8 t (st15 t k)
  obtain ⟨T17, h17, X17, e17, W17, st17⟩ := putF X15 hx hZ hown (host := "") (Or.inl (hw _ (List.mem_of_getElem? (i := 35) rfl))) Via.refl e15 f10 f9 (Or.inr ⟨(hw _ (List.mem_of_getElem? (i := 36) rfl)), rfl, hnm⟩) (hw _ (List.mem_of_getElem? (i := 8) rfl)) (ty := (.array .byte)) (by decide) rfl rfl (g := (mkF m 14 #[.val (.ref a1), .val (.ref a2), .val (.int (0 : Int32)), .val (.int (0 : Int32)), .val .null, .unset] [(.ref lb5), (.ref a1)])) rfl rfl (hb hby d4_14)
  have K18 : ∀ t, Steps p.tables e below (T17.setTop (mkF m 17 #[.val (.ref a1), .val (.ref a2), .val (.int (0 : Int32)), .val (.int (0 : Int32)), .val .null, .unset] [])) t → Steps p.tables e below G t := fun t k => K16 t (st17 t k)
  have f19 := f9.wr W17
  have f20 := f10.same W17
  have f21 := f11.other W17 (Or.inr (slot_ne (Or.inr (hw _ (List.mem_of_getElem? (i := 34) rfl))) (Or.inr (hw _ (List.mem_of_getElem? (i := 36) rfl))) (by decide) (t := .byte) (t' := (.array .byte)) (by decide) (by decide)))
  have f22 := f12.other W17 (Ne.symm ne12)
  have f23 := Safe.wr W17 U6 CH7.1 U6
  have f24 := Es5.wr W17
  have f25 := Fc5.other W17 (Or.inl (Ne.symm ne_a1_la5))
  have f26 := Fv5.other W17 (Or.inl (Ne.symm ne_a1_la5))
  have f27 := Va5.other W17 (Ne.symm ne_a1_lb5)
  have CH28 : CHr Z own_EL s.vm h0 T5.vm h17 := CH7.trans (CHr.wr W17 U6 CH7.1)
  have kS29 := Nat.le_trans kq5 (Keep.of_wr W17).1
  have Z30 : n0 ≤ h17.size := Nat.le_trans Z13 (Keep.of_wr W17).1
  have KP31 : Keep h0 h17 [a1] := KP14.wr W17 (Or.inl (List.mem_of_getElem? (i := 0) rfl))
  have N32 := Fr.snoc X17 N0 g1
  have K33 : ∀ t, Steps p.tables e below (T17.setTop (mkF m 18 #[.val (.ref a1), .val (.ref a2), .val (.int (0 : Int32)), .val (.int (0 : Int32)), .val .null, .unset] [(.ref a1)])) t → Steps p.tables e below G t := by
    intro t k
    refine K18 t ?_
    show Steps p.tables e below (T17.setTop (mkF m 17 #[.val (.ref a1), .val (.ref a2), .val (.int (0 : Int32)), .val (.int (0 : Int32)), .val .null, .unset] [])) _
    refine XS.aloadN X17.here hx rfl (hb hby d4_17) rfl rfl ?_
    show Steps p.tables e below (T17.setTop (mkF m 18 #[.val (.ref a1), .val (.ref a2), .val (.int (0 : Int32)), .val (.int (0 : Int32)), .val .null, .unset] [(.ref a1)])) _
    exact k
  obtain ⟨la34, T34, h34, k134, lb34, lk34, X34, e34, E34, hS34, kq34, hZ, hown, Es34, Fc34, Fv34, Va34, lt34, lu34, CHq34, Lt34, hsf34, st34⟩ := ldcCH (s := s) (vm0 := T5.vm) X17 hx hZ hown (hw _ (List.mem_of_getElem? (i := 37) rfl)) (own_wS hw) e17 hS5 kS29 hEL (List.mem_singleton.mpr rfl) CH28.1 (vs := []) (z := 0) ⟨by intro c hc; simp at hc, by simp⟩ (by decide) rfl (g := (mkF m 18 #[.val (.ref a1), .val (.ref a2), .val (.int (0 : Int32)), .val (.int (0 : Int32)), .val .null, .unset] [(.ref a1)])) rfl (hb hby d4_18) (n := 0) (by decide) (by decide) (by decide) (by decide)
  have U35 := CHq34.safe f19.lt f23
  have ne_a1_la34 : a1 ≠ la34 := (hsf34 _ U35).1
  have ne_a1_lb34 : a1 ≠ lb34 := (hsf34 _ U35).2
  have CH36 := CH28.trans CHq34
  have K37 : ∀ t, Steps p.tables e below (T34.setTop (mkF m 20 #[.val (.ref a1), .val (.ref a2), .val (.int (0 : Int32)), .val (.int (0 : Int32)), .val .null, .unset] [(.ref la34), (.ref a1)])) t → Steps p.tables e below G t := fun t k => K33 t (st34 t k)
  have f38 := f19.ext E34
  have f39 := f20.ext E34
  have f40 := f21.ext E34
  have f41 := f22.ext E34
  have f42 := f24.ext E34
  have f43 := f25.ext E34
  have f44 := f26.ext E34
  have f45 := f27.ext E34
  have Z46 : n0 ≤ h34.size := Nat.le_trans Z30 E34.1
  have KP47 : Keep h0 h34 [a1] := KP31.ext E34
  obtain ⟨T48, X48, e48, st48⟩ := getF X34 hx hZ hown (host := "") (Or.inl (hw _ (List.mem_of_getElem? (i := 33) rfl))) Via.refl e34 Fc34 (g := (mkF m 20 #[.val (.ref a1), .val (.ref a2), .val (.int (0 : Int32)), .val (.int (0 : Int32)), .val .null, .unset] [(.ref la34), (.ref a1)])) rfl rfl (hb hby d4_20)
  have K49 : ∀ t, Steps p.tables e below (T48.setTop (mkF m 23 #[.val (.ref a1), .val (.ref a2), .val (.int (0 : Int32)), .val (.int (0 : Int32)), .val .null, .unset] [(.int (0 : Int32)), (.ref a1)])) t → Steps p.tables e below G t := fun t k => K37 t (st48 t k)
  obtain ⟨T50, h50, X50, e50, W50, st50⟩ := putFN X48 hx hZ hown (hw _ (List.mem_of_getElem? (i := 33) rfl)) Via.refl e48 f40 f38 (Or.inr ⟨(hw _ (List.mem_of_getElem? (i := 34) rfl)), rfl, hnm⟩) (hw _ (List.mem_of_getElem? (i := 8) rfl)) (ty := .byte) (v' := (.int ((0 : Int32).toInt8.toInt32))) (by decide) rfl (fits_nar_byte _) (g := (mkF m 23 #[.val (.ref a1), .val (.ref a2), .val (.int (0 : Int32)), .val (.int (0 : Int32)), .val .null, .unset] [(.int (0 : Int32)), (.ref a1)])) rfl rfl (hb hby d4_23)
  have K51 : ∀ t, Steps p.tables e below (T50.setTop (mkF m 26 #[.val (.ref a1), .val (.ref a2), .val (.int (0 : Int32)), .val (.int (0 : Int32)), .val .null, .unset] [])) t → Steps p.tables e below G t := fun t k => K49 t (st50 t k)
  have f52 := f38.wr W50
  have f53 := f39.other W50 (Or.inr (slot_ne (Or.inr (hw _ (List.mem_of_getElem? (i := 36) rfl))) (Or.inr (hw _ (List.mem_of_getElem? (i := 34) rfl))) (by decide) (t := (.array .byte)) (t' := .byte) (by decide) (by decide)))
  have f54 := f40.same W50
  have f55 := f41.other W50 (Ne.symm ne12)
  have f56 := f42.wr W50
  have f57 := f43.other W50 (Or.inl (Ne.symm ne_a1_la5))
  have f58 := f44.other W50 (Or.inl (Ne.symm ne_a1_la5))
  have f59 := f45.other W50 (Ne.symm ne_a1_lb5)
  have f60 := Safe.wr W50 U35 CH36.1 U35
  have f61 := Es34.wr W50
  have f62 := Fc34.other W50 (Or.inl (Ne.symm ne_a1_la34))
  have f63 := Fv34.other W50 (Or.inl (Ne.symm ne_a1_la34))
  have f64 := Va34.other W50 (Ne.symm ne_a1_lb34)
  have CH65 : CHr Z own_EL s.vm h0 T34.vm h50 := CH36.trans (CHr.wr W50 U35 CH36.1)
  have kS66 := Nat.le_trans kq34 (Keep.of_wr W50).1
  have Z67 : n0 ≤ h50.size := Nat.le_trans Z46 (Keep.of_wr W50).1
  have KP68 : Keep h0 h50 [a1] := KP47.wr W50 (Or.inl (List.mem_of_getElem? (i := 0) rfl))
  have N69 := Fr.snoc X50 N32 g1
  have CHt := CH65.trans (CHv.at (s := s) (vm0 := T34.vm) X50 hZ hEL CH65.1)
  obtain ⟨fs, hr, hrun, hended, hEnd⟩ := Jvm.Stand.leaveW (s := s) (vm₁ := T34.vm) X50 hS34 (by rw [e50]; exact kS66) (v := none) (fun _ => rfl)
  have KF := K51
  rw [hG] at KF
  refine ⟨_, _, KF _ ?_, hrun, hended, _, _, rfl, ?_, (by show CHr Z own_EL s.vm s.heap T50.vm T50.heap; rw [hh, e50]; exact CHt), hEnd.1, hEnd.2.1, hEnd.2.2.1, hEnd.2.2.2.mono (by decide) (by decide)⟩
  · show Steps p.tables e below (T50.setTop (mkF m 26 #[.val (.ref a1), .val (.ref a2), .val (.int (0 : Int32)), .val (.int (0 : Int32)), .val .null, .unset] [])) _
    exact X50.returnOut hx Bd.returns (hb hby d4_26) hr
  · show Q4_0 Z a1 h0 n0 _ T50.heap _
    rw [e50]
    exact ⟨lb5, _, rfl, N69, KP68, f52, f53, f54, f59⟩
def Q3_0 (Z : State) (a1 : Addr) (h0 : Heap) (n0 : Nat) (v : Option Value) (h : Heap) (L : List Loc) : Prop := ∃ (b : Addr) (k : ClassId), v = none ∧ Fr n0 L ∧ Keep h0 h [a1] ∧ Exa Z h a1 "java/lang/String" ∧ Fld Z h a1 "java/lang/String" "value" "[B" (.ref b) ∧ Fld Z h a1 "java/lang/String" "coder" "B" (.int (0 : Int32)) ∧ Arv Z h b k .byte (0 : Int32) [] (.int (0 : Int32))
theorem ef_rm3_0 (m : MethodId) (x0 : Addr) (x1 : Addr) : entryFrame m #[(.ref x0), (.ref x1)] 2 = mkF m 0 #[.val (.ref x0), .val (.ref x1)] [] := by first | (simp [entryFrame, mkF, argsToLocals, Value.category]; done) | rfl
set_option maxRecDepth 65536 in
set_option maxHeartbeats 40000000 in
theorem rm3_0 (l : Launch) (Z : State) (a0 : Array Value) (hw : ∀ d ∈ tables_1, d.before a0 Z = true) (ws : List Jvm.Cond) (a1 a2 : Addr) (k2 : ClassId) (h0 : Heap) (n0 : Nat) (Z0 : n0 ≤ h0.size) (hEL : EW Z a0 own_EL) (E1 : Exa Z h0 a1 "java/lang/String") (F1 : Fld Z h0 a1 "java/lang/String" "value" "[B" .null) (F2 : Fld Z h0 a1 "java/lang/String" "coder" "B" (.int (0 : Int32))) (V2 : Arv Z h0 a2 k2 .char (0 : Int32) [] (.int (0 : Int32))) (g1 : n0 ≤ a1) :
    MetFree l (⟨"java/lang/String", "<init>", "([C)V"⟩ : MethodName) (head1 (Jvm.Cond.code (⟨"java/lang/String", "<init>", "([C)V"⟩ : MethodName) jdk_42_method_3_code 2 none :: ws) ({ frames := 2, cells := 4, slots := 8, locals := 29 } : Room)) (fun a U => a = #[(.ref a1), (.ref a2)] ∧ Z.Warmed39 U.vm ∧ U.heap = h0 ∧ CHv Z own_EL U.vm h0) (fun _ _ _ _ _ => True) (fun _ U o U' => ∃ v L, o = .returned v ∧ Q3_0 Z a1 h0 n0 v U'.heap L ∧ CHr Z own_EL U.vm U.heap U'.vm U'.heap ∧ ReturnedEndW U o U' L ({ frames := 2, cells := 4, slots := 8, locals := 29 } : Room).cells ({ frames := 2, cells := 4, slots := 8, locals := 29 } : Room).slots) := by
  refine MetFree.of_bodySF (plainFor_of_name pn_java_lang_String) hisR ?_
  intro p e s m args below meth c s₁ Bd hml0 hP hK
  obtain ⟨rfl, hZ, hh, hCH⟩ := hP
  have hx := Bd.exec
  have hby := Bd.bytes
  have hml : c.maxLocals = 2 := hml0
  have hown : s.vm.findClass "java/lang/String" = some m.cls := findClass_of_methodNamed Bd.named
  have hnm := (name_of_methodNamed Bd.named Bd.method).1
  have X0 : Stand p l e ({ frames := 2, cells := 4, slots := 8, locals := 29 } : Room) (s.setVm s.vm) m #[(.ref a1), (.ref a2)] below meth c s₁ [] 0 0 := Stand.of_body Bd
  have e0 : s₁.heap = h0 := by rw [← hh, Bd.state]; rfl
  have N0 := Fr.nil n0
  have KP0 : Keep h0 h0 [a1] := Keep.refl h0 _
  obtain ⟨G, hG⟩ : ∃ G : State, G = s₁.setTop (entryFrame m #[(.ref a1), (.ref a2)] 2) := ⟨_, rfl⟩
  have pre0 : ∀ t, Steps p.tables e below (s₁.setTop (mkF m 0 #[.val (.ref a1), .val (.ref a2)] [])) t → Steps p.tables e below G t := fun t k => hG ▸ castTop (ef_rm3_0 m a1 a2) k
  have hS0 : s.Since s.vm h0.size := (State.WarmedH.refl s).since _
  have kS0 : h0.size ≤ h0.size := Nat.le_refl _
  have CH0 : CHr Z own_EL s.vm h0 s.vm h0 := CHr.refl hCH
  have ne12 : a1 ≠ a2 := by obtain ⟨cz, Az, -⟩ := V2; exact ne_arr E1 (hw _ (List.mem_of_getElem? (i := 8) rfl)) Az
  have U1 : Safe Z own_EL s.vm h0 a1 := own_safe hZ.alike F1 E1 (hw _ (List.mem_of_getElem? (i := 8) rfl))
  have K1 : ∀ t, Steps p.tables e below (s₁.setTop (mkF m 4 #[.val (.ref a1), .val (.ref a2)] [(.ref a2), (.int (0 : Int32)), (.ref a2), (.ref a1)])) t → Steps p.tables e below G t := by
    intro t k
    refine pre0 t ?_
    show Steps p.tables e below (s₁.setTop (mkF m 0 #[.val (.ref a1), .val (.ref a2)] [])) _
    refine XS.aloadN X0.here hx rfl (hb hby d3_0) rfl rfl ?_
    show Steps p.tables e below (s₁.setTop (mkF m 1 #[.val (.ref a1), .val (.ref a2)] [(.ref a1)])) _
    refine XS.aloadN X0.here hx rfl (hb hby d3_1) rfl rfl ?_
    show Steps p.tables e below (s₁.setTop (mkF m 2 #[.val (.ref a1), .val (.ref a2)] [(.ref a2), (.ref a1)])) _
    refine XS.iconst X0.here hx rfl (hb hby d3_2) ?_
    show Steps p.tables e below (s₁.setTop (mkF m 3 #[.val (.ref a1), .val (.ref a2)] [(.int (0 : Int32)), (.ref a2), (.ref a1)])) _
    refine XS.aloadN X0.here hx rfl (hb hby d3_3) rfl rfl ?_
    show Steps p.tables e below (s₁.setTop (mkF m 4 #[.val (.ref a1), .val (.ref a2)] [(.ref a2), (.int (0 : Int32)), (.ref a2), (.ref a1)])) _
    exact k
  obtain ⟨cl2, Ar2, -, S2, M2, -, -⟩ := id V2
  have K3 : ∀ t, Steps p.tables e below (s₁.setTop (mkF m 5 #[.val (.ref a1), .val (.ref a2)] [(.int (0 : Int32)), (.int (0 : Int32)), (.ref a2), (.ref a1)])) t → Steps p.tables e below G t := by
    intro t k
    refine K1 t ?_
    refine X0.arraylength hx (by rw [e0]; exact Ar2.1) (State.isArrayOf_alike hZ.alike Ar2.2.1) (g := (mkF m 4 #[.val (.ref a1), .val (.ref a2)] [(.ref a2), (.int (0 : Int32)), (.ref a2), (.ref a1)])) rfl rfl (hb hby d3_4) _ ?_
    rw [len_of S2 M2]
    exact k
  have K4 : ∀ t, Steps p.tables e below (s₁.setTop (mkF m 6 #[.val (.ref a1), .val (.ref a2)] [.null, (.int (0 : Int32)), (.int (0 : Int32)), (.ref a2), (.ref a1)])) t → Steps p.tables e below G t := by
    intro t k
    refine K3 t ?_
    show Steps p.tables e below (s₁.setTop (mkF m 5 #[.val (.ref a1), .val (.ref a2)] [(.int (0 : Int32)), (.int (0 : Int32)), (.ref a2), (.ref a1)])) _
    refine XS.aconstNull X0.here hx rfl (hb hby d3_5) ?_
    show Steps p.tables e below (s₁.setTop (mkF m 6 #[.val (.ref a1), .val (.ref a2)] [.null, (.int (0 : Int32)), (.int (0 : Int32)), (.ref a2), (.ref a1)])) _
    exact k
  obtain ⟨_, _, ⟨T5, L5, kk5, nn5⟩, -, Xq5, hSq5, gq5, ⟨Lc5, hQ5, lq5, yq5, zq5, CHq5⟩, st5⟩ := X0.specialBackS hx (y := (⟨"java/lang/String", "<init>", "([CIILjava/lang/Void;)V"⟩ : MethodName)) rfl hown (mvT hZ (hw _ (List.mem_of_getElem? (i := 14) rfl))) (mvT hZ (hw _ (List.mem_of_getElem? (i := 15) rfl))) (mvT hZ (hw _ (List.mem_of_getElem? (i := 17) rfl))) (by decide) (backOfSH (s := s) (vm0 := s.vm) (W := 0) (rm4_0 l Z a0 hw [] a1 a2 k2 h0 n0 Z0 hEL E1 F1 F2 V2 g1) hZ (hw _ (List.mem_of_getElem? (i := 17) rfl)) (hw _ (List.mem_of_getElem? (i := 9) rfl)) (by decide) (by decide) hEL CH0.1) (g := (mkF m 6 #[.val (.ref a1), .val (.ref a2)] [.null, (.int (0 : Int32)), (.int (0 : Int32)), (.ref a2), (.ref a1)])) rfl (by rw [hml]; rfl) (Steps.refl _) (a := a1) (argsL := [(.ref a2), (.int (0 : Int32)), (.int (0 : Int32)), .null]) (rest := []) (lenOf pd_3 rfl) rfl (by show 2 * 0 + _ ≤ _; exact Nat.le_of_eq rfl) (hb hby d3_6) (fun _ _ => ⟨rfl, e0, (by decide : 0 + 4 ≤ _), (by decide : 0 + 8 ≤ _)⟩)
  dsimp only [Pt.U, Pt.locs, Pt.cells, Pt.slots] at Xq5 hSq5 gq5 lq5 yq5 zq5 st5 hQ5 CHq5
  subst lq5 yq5 zq5
  obtain ⟨X5, hS5, hZ, hown⟩ := rebS hS0 (by rw [e0]; exact kS0) Xq5 hSq5 gq5 hZ hown
  have CH5 := CH0.trans CHq5
  have kS6 : T5.heap.size ≤ T5.heap.size := Nat.le_refl _
  obtain ⟨b5, kb5, rfl, Nq5, K5, E5', Fv5, Fc5, Vb5⟩ := hQ5
  have N7 := Fr.app N0 Nq5
  have f8 := E1.keep K5
  have f9 := V2.keep K5 (ninS (Ne.symm ne12) nin0)
  have Z10 : n0 ≤ T5.heap.size := Nat.le_trans Z0 K5.1
  have KP11 : Keep h0 T5.heap [a1] := KP0.trans K5 (allS (Or.inl (List.mem_of_getElem? (i := 0) rfl)) all0)
  have K12 : ∀ t, Steps p.tables e below (T5.setTop (mkF m 9 #[.val (.ref a1), .val (.ref a2)] [])) t → Steps p.tables e below G t := fun t k => K4 t (st5.trans k)
  have CHt := CH5.trans (CHv.at (s := s) (vm0 := T5.vm) X5 hZ hEL CH5.1)
  obtain ⟨fs, hr, hrun, hended, hEnd⟩ := Jvm.Stand.leaveW (s := s) (vm₁ := T5.vm) X5 hS5 kS6 (v := none) (fun _ => rfl)
  have KF := K12
  rw [hG] at KF
  refine ⟨_, _, KF _ ?_, hrun, hended, _, _, rfl, ?_, (by show CHr Z own_EL s.vm s.heap T5.vm T5.heap; rw [hh]; exact CHt), hEnd.1, hEnd.2.1, hEnd.2.2.1, hEnd.2.2.2.mono (by decide) (by decide)⟩
  · show Steps p.tables e below (T5.setTop (mkF m 9 #[.val (.ref a1), .val (.ref a2)] [])) _
    exact X5.returnOut hx Bd.returns (hb hby d3_9) hr
  · show Q3_0 Z a1 h0 n0 _ T5.heap _
    exact ⟨b5, _, rfl, N7, KP11, E5', Fv5, Fc5, Vb5⟩
def own_S (Z : State) (h : Heap) (s b : Addr) (k : ClassId) (z : Int32) (vs : List Value) : Prop := Exa Z h s "java/lang/String" ∧ Fld Z h s "java/lang/String" "value" "[B" (.ref b) ∧ Fld Z h s "java/lang/String" "coder" "B" (.int (0 : Int32)) ∧ Arv Z h b k .byte z vs (.int (0 : Int32))
def own_len (z : Int32) (vs : List Value) : Prop := (z = (0 : Int32) ∧ vs = []) ∨ (∃ x0 : Int32, z = (1 : Int32) ∧ vs = [(.int x0)]) ∨ (∃ x0 x1 : Int32, z = (2 : Int32) ∧ vs = [(.int x0), (.int x1)])
def own_same (z1 z2 : Int32) (vs1 vs2 : List Value) : Prop := z1 = z2 ∧ vs1 = vs2
def own_B (c : Int32) : Int32 := nar .byte ((nar .char c).toInt8.toInt32)
def own_form (ln c0 c1 z : Int32) (vs : List Value) : Prop := (ln = (0 : Int32) ∧ z = (0 : Int32) ∧ vs = []) ∨ (ln = (1 : Int32) ∧ z = (1 : Int32) ∧ vs = [(.int (own_B c0))]) ∨ (¬ ln = (0 : Int32) ∧ ¬ ln = (1 : Int32) ∧ z = (2 : Int32) ∧ vs = [(.int (own_B c0)), (.int (own_B c1))])
theorem own_form_len {ln c0 c1 z : Int32} {vs : List Value} (h : own_form ln c0 c1 z vs) : own_len z vs := by
  rcases h with ⟨-, a, b⟩ | ⟨-, a, b⟩ | ⟨-, -, a, b⟩
  · exact Or.inl ⟨a, b⟩
  · exact Or.inr (Or.inl ⟨_, a, b⟩)
  · exact Or.inr (Or.inr ⟨_, _, a, b⟩)
theorem own_Bt (c : Int32) (h : 0 ≤ c.toInt ∧ c.toInt ≤ 255) : ((own_B c).toInt - c.toInt) % 256 = 0 ∧ -128 ≤ (own_B c).toInt ∧ (own_B c).toInt < 128 := by
  have a := c_i2c c; have b := c_i2b (nar .char c); have d := c_i2b ((nar .char c).toInt8.toInt32)
  change ((nar .char c).toInt - c.toInt) % 65536 = 0 ∧ 0 ≤ (nar .char c).toInt ∧ (nar .char c).toInt < 65536 at a
  change ((own_B c).toInt - ((nar .char c).toInt8.toInt32).toInt) % 256 = 0 ∧ -128 ≤ (own_B c).toInt ∧ (own_B c).toInt < 128 at d
  omega
theorem own_Binj {c d : Int32} (hc : 0 ≤ c.toInt ∧ c.toInt ≤ 255) (hd : 0 ≤ d.toInt ∧ d.toInt ≤ 255) (h : own_B c = own_B d) : c = d := by
  have a := own_Bt c hc; have b := own_Bt d hd; rw [h] at a
  exact Int32.toInt_inj.mp (by omega)
theorem own_same_iff {la a0 a1 z1 lb b0 b1 z2 : Int32} {vs1 vs2 : List Value} (f1 : own_form la a0 a1 z1 vs1) (f2 : own_form lb b0 b1 z2 vs2) (ha : la = 0 ∨ la = 1 ∨ la = 2) (hb : lb = 0 ∨ lb = 1 ∨ lb = 2) (c0 : 0 ≤ a0.toInt ∧ a0.toInt ≤ 255) (c1 : 0 ≤ a1.toInt ∧ a1.toInt ≤ 255) (d0 : 0 ≤ b0.toInt ∧ b0.toInt ≤ 255) (d1 : 0 ≤ b1.toInt ∧ b1.toInt ≤ 255) :
    own_same z1 z2 vs1 vs2 ↔ (la = lb ∧ (la < 1 ∨ a0 = b0) ∧ (la < 2 ∨ a1 = b1)) := by
  rcases ha with rfl | rfl | rfl <;> rcases hb with rfl | rfl | rfl <;> rcases f1 with ⟨q1, rfl, rfl⟩ | ⟨q1, rfl, rfl⟩ | ⟨q1, q1', rfl, rfl⟩ <;> rcases f2 with ⟨q2, rfl, rfl⟩ | ⟨q2, rfl, rfl⟩ | ⟨q2, q2', rfl, rfl⟩
  all_goals first
    | exact absurd q1 (by decide)
    | exact absurd q2 (by decide)
    | exact absurd rfl q1
    | exact absurd rfl q2
    | exact absurd rfl q1'
    | exact absurd rfl q2'
    | exact ⟨fun h => absurd h.1 (by decide), fun h => absurd h.1 (by decide)⟩
    | exact ⟨fun _ => ⟨rfl, Or.inl (by decide), Or.inl (by decide)⟩, fun _ => ⟨rfl, rfl⟩⟩
    | exact ⟨fun h => ⟨rfl, Or.inr (own_Binj c0 d0 (Value.int.inj (List.cons.inj h.2).1)), Or.inl (by decide)⟩, fun h => ⟨rfl, by rw [h.2.1.resolve_left (by decide)]⟩⟩
    | exact ⟨fun h => ⟨rfl, Or.inr (own_Binj c0 d0 (Value.int.inj (List.cons.inj h.2).1)), Or.inr (own_Binj c1 d1 (Value.int.inj (List.cons.inj (List.cons.inj h.2).2).1))⟩, fun h => ⟨rfl, by rw [h.2.1.resolve_left (by decide), h.2.2.resolve_left (by decide)]⟩⟩
/-- one or nought, as P holds -/
def own_says (r : Int32) (P : Prop) : Prop := (r = 1 ∧ P) ∨ (r = 0 ∧ ¬ P)
theorem own_says_eq {r r' : Int32} {P P' : Prop} (h : own_says r P) (h' : own_says r' P') (e : P ↔ P') : r = r' := by
  rcases h with ⟨a, b⟩ | ⟨a, b⟩ <;> rcases h' with ⟨c, d⟩ | ⟨c, d⟩
  · rw [a, c]
  · exact absurd (e.mp b) d
  · exact absurd (e.mpr d) b
  · rw [a, c]
def Q13 (z1 z2 : Int32) (vs1 vs2 : List Value) (h0 : Heap) (n0 : Nat) (v : Option Value) (h : Heap) (L : List Loc) : Prop := ∃ r : Int32, v = some (.int r) ∧ Fr n0 L ∧ h = h0 ∧ own_says r (own_same z1 z2 vs1 vs2)
theorem d13_0 : decode jdk_43_method_13_code 0 = .ok (.aload_n 0, 1) := by decide +kernel
theorem d13_1 : decode jdk_43_method_13_code 1 = .ok (.arraylength, 1) := by decide +kernel
theorem d13_2 : decode jdk_43_method_13_code 2 = .ok (.aload_n 1, 1) := by decide +kernel
theorem d13_3 : decode jdk_43_method_13_code 3 = .ok (.arraylength, 1) := by decide +kernel
theorem d13_4 : decode jdk_43_method_13_code 4 = .ok (.if_icmp .ne 30, 3) := by decide +kernel
theorem d13_7 : decode jdk_43_method_13_code 7 = .ok (.iconst 0, 1) := by decide +kernel
theorem d13_8 : decode jdk_43_method_13_code 8 = .ok (.istore_n 2, 1) := by decide +kernel
theorem d13_9 : decode jdk_43_method_13_code 9 = .ok (.iload_n 2, 1) := by decide +kernel
theorem d13_10 : decode jdk_43_method_13_code 10 = .ok (.aload_n 0, 1) := by decide +kernel
theorem d13_11 : decode jdk_43_method_13_code 11 = .ok (.arraylength, 1) := by decide +kernel
theorem d13_12 : decode jdk_43_method_13_code 12 = .ok (.if_icmp .ge 20, 3) := by decide +kernel
theorem d13_15 : decode jdk_43_method_13_code 15 = .ok (.aload_n 0, 1) := by decide +kernel
theorem d13_16 : decode jdk_43_method_13_code 16 = .ok (.iload_n 2, 1) := by decide +kernel
theorem d13_17 : decode jdk_43_method_13_code 17 = .ok (.baload, 1) := by decide +kernel
theorem d13_18 : decode jdk_43_method_13_code 18 = .ok (.aload_n 1, 1) := by decide +kernel
theorem d13_19 : decode jdk_43_method_13_code 19 = .ok (.iload_n 2, 1) := by decide +kernel
theorem d13_20 : decode jdk_43_method_13_code 20 = .ok (.baload, 1) := by decide +kernel
theorem d13_21 : decode jdk_43_method_13_code 21 = .ok (.if_icmp .eq 5, 3) := by decide +kernel
theorem d13_24 : decode jdk_43_method_13_code 24 = .ok (.iconst 0, 1) := by decide +kernel
theorem d13_25 : decode jdk_43_method_13_code 25 = .ok (.ireturn, 1) := by decide +kernel
theorem d13_26 : decode jdk_43_method_13_code 26 = .ok (.iinc 2 1, 3) := by decide +kernel
theorem d13_29 : decode jdk_43_method_13_code 29 = .ok (.goto (-20), 3) := by decide +kernel
theorem d13_32 : decode jdk_43_method_13_code 32 = .ok (.iconst 1, 1) := by decide +kernel
theorem d13_33 : decode jdk_43_method_13_code 33 = .ok (.ireturn, 1) := by decide +kernel
theorem d13_34 : decode jdk_43_method_13_code 34 = .ok (.iconst 0, 1) := by decide +kernel
theorem d13_35 : decode jdk_43_method_13_code 35 = .ok (.ireturn, 1) := by decide +kernel
theorem pn_java_lang_StringLatin1 : plainName "java/lang/StringLatin1" = true := by first | (simp [plainName, overriddenIn]; done) | decide +kernel
theorem ef_rm13 (m : MethodId) (x0 : Addr) (x1 : Addr) : entryFrame m #[(.ref x0), (.ref x1)] 3 = mkF m 0 #[.val (.ref x0), .val (.ref x1), .unset] [] := by first | (simp [entryFrame, mkF, argsToLocals, Value.category]; done) | rfl
set_option maxRecDepth 65536 in
set_option maxHeartbeats 40000000 in
theorem rm13 (l : Launch) (Z : State) (a0 : Array Value) (hw : ∀ d ∈ tables_1, d.before a0 Z = true) (ws : List Jvm.Cond) (a1 a2 : Addr) (k1 k2 : ClassId) (z1 z2 : Int32) (vs1 vs2 : List Value) (h0 : Heap) (n0 : Nat) (Z0 : n0 ≤ h0.size) (V1 : Arv Z h0 a1 k1 .byte z1 vs1 (.int (0 : Int32))) (V2 : Arv Z h0 a2 k2 .byte z2 vs2 (.int (0 : Int32))) (f1 : own_len z1 vs1) (f2 : own_len z2 vs2) :
    MetFree l (⟨"java/lang/StringLatin1", "equals", "([B[B)Z"⟩ : MethodName) (head1 (Jvm.Cond.code (⟨"java/lang/StringLatin1", "equals", "([B[B)Z"⟩ : MethodName) jdk_43_method_13_code 3 (some .boolean) :: ws) ({ frames := 0, cells := 0, slots := 0, locals := 0 } : Room)) (fun a U => a = #[(.ref a1), (.ref a2)] ∧ Z.Warmed39 U.vm ∧ U.heap = h0) (fun _ _ _ _ _ => True) (fun _ U o U' => ∃ v L, o = .returned v ∧ Q13 z1 z2 vs1 vs2 h0 n0 v U'.heap L ∧ FrameEnd U o U' L ({ frames := 0, cells := 0, slots := 0, locals := 0 } : Room).cells ({ frames := 0, cells := 0, slots := 0, locals := 0 } : Room).slots) := by
  refine MetFree.of_bodySF (plainFor_of_name pn_java_lang_StringLatin1) hisR ?_
  intro p e s m args below meth c s₁ Bd hml0 hP hK
  obtain ⟨rfl, hZ, hh⟩ := hP
  have hx := Bd.exec
  have hby := Bd.bytes
  have hml : c.maxLocals = 3 := hml0
  have hown : s.vm.findClass "java/lang/StringLatin1" = some m.cls := findClass_of_methodNamed Bd.named
  have hnm := (name_of_methodNamed Bd.named Bd.method).1
  have X0 : Stand p l e ({ frames := 0, cells := 0, slots := 0, locals := 0 } : Room) s m #[(.ref a1), (.ref a2)] below meth c s₁ [] 0 0 := Stand.of_body Bd
  have e0 : s₁.heap = h0 := by rw [← hh, Bd.state]; rfl
  have N0 := Fr.nil n0
  have KP0 : Keep h0 h0 [] := Keep.refl h0 _
  obtain ⟨G, hG⟩ : ∃ G : State, G = s₁.setTop (entryFrame m #[(.ref a1), (.ref a2)] 3) := ⟨_, rfl⟩
  have pre0 : ∀ t, Steps p.tables e below (s₁.setTop (mkF m 0 #[.val (.ref a1), .val (.ref a2), .unset] [])) t → Steps p.tables e below G t := fun t k => hG ▸ castTop (ef_rm13 m a1 a2) k
  rcases f1 with ⟨rfl, rfl⟩ | ⟨x0, rfl, rfl⟩ | ⟨x0, x1, rfl, rfl⟩
  · rcases f2 with ⟨rfl, rfl⟩ | ⟨y0, rfl, rfl⟩ | ⟨y0, y1, rfl, rfl⟩
    · have K1 : ∀ t, Steps p.tables e below (s₁.setTop (mkF m 1 #[.val (.ref a1), .val (.ref a2), .unset] [(.ref a1)])) t → Steps p.tables e below G t := by
        intro t k
        refine pre0 t ?_
        show Steps p.tables e below (s₁.setTop (mkF m 0 #[.val (.ref a1), .val (.ref a2), .unset] [])) _
        refine XS.aloadN X0.here hx rfl (hb hby d13_0) rfl rfl ?_
        show Steps p.tables e below (s₁.setTop (mkF m 1 #[.val (.ref a1), .val (.ref a2), .unset] [(.ref a1)])) _
        exact k
      obtain ⟨cl2, Ar2, -, S2, M2, -, -⟩ := id V1
      have K3 : ∀ t, Steps p.tables e below (s₁.setTop (mkF m 2 #[.val (.ref a1), .val (.ref a2), .unset] [(.int (0 : Int32))])) t → Steps p.tables e below G t := by
        intro t k
        refine K1 t ?_
        refine X0.arraylength hx (by rw [e0]; exact Ar2.1) (State.isArrayOf_alike hZ.alike Ar2.2.1) (g := (mkF m 1 #[.val (.ref a1), .val (.ref a2), .unset] [(.ref a1)])) rfl rfl (hb hby d13_1) _ ?_
        rw [len_of S2 M2]
        exact k
      have K4 : ∀ t, Steps p.tables e below (s₁.setTop (mkF m 3 #[.val (.ref a1), .val (.ref a2), .unset] [(.ref a2), (.int (0 : Int32))])) t → Steps p.tables e below G t := by
        intro t k
        refine K3 t ?_
        show Steps p.tables e below (s₁.setTop (mkF m 2 #[.val (.ref a1), .val (.ref a2), .unset] [(.int (0 : Int32))])) _
        refine XS.aloadN X0.here hx rfl (hb hby d13_2) rfl rfl ?_
        show Steps p.tables e below (s₁.setTop (mkF m 3 #[.val (.ref a1), .val (.ref a2), .unset] [(.ref a2), (.int (0 : Int32))])) _
        exact k
      obtain ⟨cl5, Ar5, -, S5, M5, -, -⟩ := id V2
      have K6 : ∀ t, Steps p.tables e below (s₁.setTop (mkF m 4 #[.val (.ref a1), .val (.ref a2), .unset] [(.int (0 : Int32)), (.int (0 : Int32))])) t → Steps p.tables e below G t := by
        intro t k
        refine K4 t ?_
        refine X0.arraylength hx (by rw [e0]; exact Ar5.1) (State.isArrayOf_alike hZ.alike Ar5.2.1) (g := (mkF m 3 #[.val (.ref a1), .val (.ref a2), .unset] [(.ref a2), (.int (0 : Int32))])) rfl rfl (hb hby d13_3) _ ?_
        rw [len_of S5 M5]
        exact k
      have K7 : ∀ t, Steps p.tables e below (s₁.setTop (mkF m 11 #[.val (.ref a1), .val (.ref a2), .val (.int (0 : Int32))] [(.ref a1), (.int (0 : Int32))])) t → Steps p.tables e below G t := by
        intro t k
        refine K6 t ?_
        show Steps p.tables e below (s₁.setTop (mkF m 4 #[.val (.ref a1), .val (.ref a2), .unset] [(.int (0 : Int32)), (.int (0 : Int32))])) _
        refine XS.icmpNo X0.here hx rfl (hb hby d13_4) rfl (teq (by decide)).2 ?_
        show Steps p.tables e below (s₁.setTop (mkF m 7 #[.val (.ref a1), .val (.ref a2), .unset] [])) _
        refine XS.iconst X0.here hx rfl (hb hby d13_7) ?_
        show Steps p.tables e below (s₁.setTop (mkF m 8 #[.val (.ref a1), .val (.ref a2), .unset] [(.int (0 : Int32))])) _
        refine XS.istoreN X0.here hx rfl (hb hby d13_8) rfl (l' := #[.val (.ref a1), .val (.ref a2), .val (.int (0 : Int32))]) rfl ?_
        show Steps p.tables e below (s₁.setTop (mkF m 9 #[.val (.ref a1), .val (.ref a2), .val (.int (0 : Int32))] [])) _
        refine XS.iloadN X0.here hx rfl (hb hby d13_9) rfl ?_
        show Steps p.tables e below (s₁.setTop (mkF m 10 #[.val (.ref a1), .val (.ref a2), .val (.int (0 : Int32))] [(.int (0 : Int32))])) _
        refine XS.aloadN X0.here hx rfl (hb hby d13_10) rfl rfl ?_
        show Steps p.tables e below (s₁.setTop (mkF m 11 #[.val (.ref a1), .val (.ref a2), .val (.int (0 : Int32))] [(.ref a1), (.int (0 : Int32))])) _
        exact k
      obtain ⟨cl8, Ar8, -, S8, M8, -, -⟩ := id V1
      have K9 : ∀ t, Steps p.tables e below (s₁.setTop (mkF m 12 #[.val (.ref a1), .val (.ref a2), .val (.int (0 : Int32))] [(.int (0 : Int32)), (.int (0 : Int32))])) t → Steps p.tables e below G t := by
        intro t k
        refine K7 t ?_
        refine X0.arraylength hx (by rw [e0]; exact Ar8.1) (State.isArrayOf_alike hZ.alike Ar8.2.1) (g := (mkF m 11 #[.val (.ref a1), .val (.ref a2), .val (.int (0 : Int32))] [(.ref a1), (.int (0 : Int32))])) rfl rfl (hb hby d13_11) _ ?_
        rw [len_of S8 M8]
        exact k
      obtain ⟨fs, hr, hrun, hended, hW, hsame⟩ := X0.leave (v := some (.int (1 : Int32))) (fun h => by rw [Bd.returns] at h; cases h)
      have KF := K9
      rw [hG] at KF
      refine ⟨_, _, KF _ ?_, hrun, hended, _, _, rfl, ?_, ⟨_, rfl⟩, hW, hsame.mono (by decide) (by decide)⟩
      · show Steps p.tables e below (s₁.setTop (mkF m 12 #[.val (.ref a1), .val (.ref a2), .val (.int (0 : Int32))] [(.int (0 : Int32)), (.int (0 : Int32))])) _
        refine XS.icmpYes X0.here hx rfl (pc0 := 12) (pc' := 32) rfl (hb hby d13_12) rfl (flt (by decide)).2.1 (by decide) (by decide) ?_
        show Steps p.tables e below (s₁.setTop (mkF m 32 #[.val (.ref a1), .val (.ref a2), .val (.int (0 : Int32))] [])) _
        refine XS.iconst X0.here hx rfl (hb hby d13_32) ?_
        show Steps p.tables e below (s₁.setTop (mkF m 33 #[.val (.ref a1), .val (.ref a2), .val (.int (0 : Int32))] [(.int (1 : Int32))])) _
        exact retN X0 hx (t := .boolean) Bd.returns (by simp) (hb hby d13_33) hr
      · show Q13 (0 : Int32) (0 : Int32) [] [] h0 n0 _ s₁.heap _
        rw [e0]
        exact ⟨_, rfl, N0, rfl, Or.inl ⟨rfl, rfl, by rfl⟩⟩
    · have K10 : ∀ t, Steps p.tables e below (s₁.setTop (mkF m 1 #[.val (.ref a1), .val (.ref a2), .unset] [(.ref a1)])) t → Steps p.tables e below G t := by
        intro t k
        refine pre0 t ?_
        show Steps p.tables e below (s₁.setTop (mkF m 0 #[.val (.ref a1), .val (.ref a2), .unset] [])) _
        refine XS.aloadN X0.here hx rfl (hb hby d13_0) rfl rfl ?_
        show Steps p.tables e below (s₁.setTop (mkF m 1 #[.val (.ref a1), .val (.ref a2), .unset] [(.ref a1)])) _
        exact k
      obtain ⟨cl11, Ar11, -, S11, M11, -, -⟩ := id V1
      have K12 : ∀ t, Steps p.tables e below (s₁.setTop (mkF m 2 #[.val (.ref a1), .val (.ref a2), .unset] [(.int (0 : Int32))])) t → Steps p.tables e below G t := by
        intro t k
        refine K10 t ?_
        refine X0.arraylength hx (by rw [e0]; exact Ar11.1) (State.isArrayOf_alike hZ.alike Ar11.2.1) (g := (mkF m 1 #[.val (.ref a1), .val (.ref a2), .unset] [(.ref a1)])) rfl rfl (hb hby d13_1) _ ?_
        rw [len_of S11 M11]
        exact k
      have K13 : ∀ t, Steps p.tables e below (s₁.setTop (mkF m 3 #[.val (.ref a1), .val (.ref a2), .unset] [(.ref a2), (.int (0 : Int32))])) t → Steps p.tables e below G t := by
        intro t k
        refine K12 t ?_
        show Steps p.tables e below (s₁.setTop (mkF m 2 #[.val (.ref a1), .val (.ref a2), .unset] [(.int (0 : Int32))])) _
        refine XS.aloadN X0.here hx rfl (hb hby d13_2) rfl rfl ?_
        show Steps p.tables e below (s₁.setTop (mkF m 3 #[.val (.ref a1), .val (.ref a2), .unset] [(.ref a2), (.int (0 : Int32))])) _
        exact k
      obtain ⟨cl14, Ar14, -, S14, M14, -, -⟩ := id V2
      have K15 : ∀ t, Steps p.tables e below (s₁.setTop (mkF m 4 #[.val (.ref a1), .val (.ref a2), .unset] [(.int (1 : Int32)), (.int (0 : Int32))])) t → Steps p.tables e below G t := by
        intro t k
        refine K13 t ?_
        refine X0.arraylength hx (by rw [e0]; exact Ar14.1) (State.isArrayOf_alike hZ.alike Ar14.2.1) (g := (mkF m 3 #[.val (.ref a1), .val (.ref a2), .unset] [(.ref a2), (.int (0 : Int32))])) rfl rfl (hb hby d13_3) _ ?_
        rw [len_of S14 M14]
        exact k
      obtain ⟨fs, hr, hrun, hended, hW, hsame⟩ := X0.leave (v := some (.int (0 : Int32))) (fun h => by rw [Bd.returns] at h; cases h)
      have KF := K15
      rw [hG] at KF
      refine ⟨_, _, KF _ ?_, hrun, hended, _, _, rfl, ?_, ⟨_, rfl⟩, hW, hsame.mono (by decide) (by decide)⟩
      · show Steps p.tables e below (s₁.setTop (mkF m 4 #[.val (.ref a1), .val (.ref a2), .unset] [(.int (1 : Int32)), (.int (0 : Int32))])) _
        refine XS.icmpYes X0.here hx rfl (pc0 := 4) (pc' := 34) rfl (hb hby d13_4) rfl (feq (by decide)).2 (by decide) (by decide) ?_
        show Steps p.tables e below (s₁.setTop (mkF m 34 #[.val (.ref a1), .val (.ref a2), .unset] [])) _
        refine XS.iconst X0.here hx rfl (hb hby d13_34) ?_
        show Steps p.tables e below (s₁.setTop (mkF m 35 #[.val (.ref a1), .val (.ref a2), .unset] [(.int (0 : Int32))])) _
        exact retN X0 hx (t := .boolean) Bd.returns (by simp) (hb hby d13_35) hr
      · show Q13 (0 : Int32) (1 : Int32) [] [(.int y0)] h0 n0 _ s₁.heap _
        rw [e0]
        exact ⟨_, rfl, N0, rfl, Or.inr ⟨rfl, fun q => absurd q.1 (by decide)⟩⟩
    · have K16 : ∀ t, Steps p.tables e below (s₁.setTop (mkF m 1 #[.val (.ref a1), .val (.ref a2), .unset] [(.ref a1)])) t → Steps p.tables e below G t := by
        intro t k
        refine pre0 t ?_
        show Steps p.tables e below (s₁.setTop (mkF m 0 #[.val (.ref a1), .val (.ref a2), .unset] [])) _
        refine XS.aloadN X0.here hx rfl (hb hby d13_0) rfl rfl ?_
        show Steps p.tables e below (s₁.setTop (mkF m 1 #[.val (.ref a1), .val (.ref a2), .unset] [(.ref a1)])) _
        exact k
      obtain ⟨cl17, Ar17, -, S17, M17, -, -⟩ := id V1
      have K18 : ∀ t, Steps p.tables e below (s₁.setTop (mkF m 2 #[.val (.ref a1), .val (.ref a2), .unset] [(.int (0 : Int32))])) t → Steps p.tables e below G t := by
        intro t k
        refine K16 t ?_
        refine X0.arraylength hx (by rw [e0]; exact Ar17.1) (State.isArrayOf_alike hZ.alike Ar17.2.1) (g := (mkF m 1 #[.val (.ref a1), .val (.ref a2), .unset] [(.ref a1)])) rfl rfl (hb hby d13_1) _ ?_
        rw [len_of S17 M17]
        exact k
      have K19 : ∀ t, Steps p.tables e below (s₁.setTop (mkF m 3 #[.val (.ref a1), .val (.ref a2), .unset] [(.ref a2), (.int (0 : Int32))])) t → Steps p.tables e below G t := by
        intro t k
        refine K18 t ?_
        show Steps p.tables e below (s₁.setTop (mkF m 2 #[.val (.ref a1), .val (.ref a2), .unset] [(.int (0 : Int32))])) _
        refine XS.aloadN X0.here hx rfl (hb hby d13_2) rfl rfl ?_
        show Steps p.tables e below (s₁.setTop (mkF m 3 #[.val (.ref a1), .val (.ref a2), .unset] [(.ref a2), (.int (0 : Int32))])) _
        exact k
      obtain ⟨cl20, Ar20, -, S20, M20, -, -⟩ := id V2
      have K21 : ∀ t, Steps p.tables e below (s₁.setTop (mkF m 4 #[.val (.ref a1), .val (.ref a2), .unset] [(.int (2 : Int32)), (.int (0 : Int32))])) t → Steps p.tables e below G t := by
        intro t k
        refine K19 t ?_
        refine X0.arraylength hx (by rw [e0]; exact Ar20.1) (State.isArrayOf_alike hZ.alike Ar20.2.1) (g := (mkF m 3 #[.val (.ref a1), .val (.ref a2), .unset] [(.ref a2), (.int (0 : Int32))])) rfl rfl (hb hby d13_3) _ ?_
        rw [len_of S20 M20]
        exact k
      obtain ⟨fs, hr, hrun, hended, hW, hsame⟩ := X0.leave (v := some (.int (0 : Int32))) (fun h => by rw [Bd.returns] at h; cases h)
      have KF := K21
      rw [hG] at KF
      refine ⟨_, _, KF _ ?_, hrun, hended, _, _, rfl, ?_, ⟨_, rfl⟩, hW, hsame.mono (by decide) (by decide)⟩
      · show Steps p.tables e below (s₁.setTop (mkF m 4 #[.val (.ref a1), .val (.ref a2), .unset] [(.int (2 : Int32)), (.int (0 : Int32))])) _
        refine XS.icmpYes X0.here hx rfl (pc0 := 4) (pc' := 34) rfl (hb hby d13_4) rfl (feq (by decide)).2 (by decide) (by decide) ?_
        show Steps p.tables e below (s₁.setTop (mkF m 34 #[.val (.ref a1), .val (.ref a2), .unset] [])) _
        refine XS.iconst X0.here hx rfl (hb hby d13_34) ?_
        show Steps p.tables e below (s₁.setTop (mkF m 35 #[.val (.ref a1), .val (.ref a2), .unset] [(.int (0 : Int32))])) _
        exact retN X0 hx (t := .boolean) Bd.returns (by simp) (hb hby d13_35) hr
      · show Q13 (0 : Int32) (2 : Int32) [] [(.int y0), (.int y1)] h0 n0 _ s₁.heap _
        rw [e0]
        exact ⟨_, rfl, N0, rfl, Or.inr ⟨rfl, fun q => absurd q.1 (by decide)⟩⟩
  · rcases f2 with ⟨rfl, rfl⟩ | ⟨y0, rfl, rfl⟩ | ⟨y0, y1, rfl, rfl⟩
    · have K22 : ∀ t, Steps p.tables e below (s₁.setTop (mkF m 1 #[.val (.ref a1), .val (.ref a2), .unset] [(.ref a1)])) t → Steps p.tables e below G t := by
        intro t k
        refine pre0 t ?_
        show Steps p.tables e below (s₁.setTop (mkF m 0 #[.val (.ref a1), .val (.ref a2), .unset] [])) _
        refine XS.aloadN X0.here hx rfl (hb hby d13_0) rfl rfl ?_
        show Steps p.tables e below (s₁.setTop (mkF m 1 #[.val (.ref a1), .val (.ref a2), .unset] [(.ref a1)])) _
        exact k
      obtain ⟨cl23, Ar23, -, S23, M23, -, -⟩ := id V1
      have K24 : ∀ t, Steps p.tables e below (s₁.setTop (mkF m 2 #[.val (.ref a1), .val (.ref a2), .unset] [(.int (1 : Int32))])) t → Steps p.tables e below G t := by
        intro t k
        refine K22 t ?_
        refine X0.arraylength hx (by rw [e0]; exact Ar23.1) (State.isArrayOf_alike hZ.alike Ar23.2.1) (g := (mkF m 1 #[.val (.ref a1), .val (.ref a2), .unset] [(.ref a1)])) rfl rfl (hb hby d13_1) _ ?_
        rw [len_of S23 M23]
        exact k
      have K25 : ∀ t, Steps p.tables e below (s₁.setTop (mkF m 3 #[.val (.ref a1), .val (.ref a2), .unset] [(.ref a2), (.int (1 : Int32))])) t → Steps p.tables e below G t := by
        intro t k
        refine K24 t ?_
        show Steps p.tables e below (s₁.setTop (mkF m 2 #[.val (.ref a1), .val (.ref a2), .unset] [(.int (1 : Int32))])) _
        refine XS.aloadN X0.here hx rfl (hb hby d13_2) rfl rfl ?_
        show Steps p.tables e below (s₁.setTop (mkF m 3 #[.val (.ref a1), .val (.ref a2), .unset] [(.ref a2), (.int (1 : Int32))])) _
        exact k
      obtain ⟨cl26, Ar26, -, S26, M26, -, -⟩ := id V2
      have K27 : ∀ t, Steps p.tables e below (s₁.setTop (mkF m 4 #[.val (.ref a1), .val (.ref a2), .unset] [(.int (0 : Int32)), (.int (1 : Int32))])) t → Steps p.tables e below G t := by
        intro t k
        refine K25 t ?_
        refine X0.arraylength hx (by rw [e0]; exact Ar26.1) (State.isArrayOf_alike hZ.alike Ar26.2.1) (g := (mkF m 3 #[.val (.ref a1), .val (.ref a2), .unset] [(.ref a2), (.int (1 : Int32))])) rfl rfl (hb hby d13_3) _ ?_
        rw [len_of S26 M26]
        exact k
      obtain ⟨fs, hr, hrun, hended, hW, hsame⟩ := X0.leave (v := some (.int (0 : Int32))) (fun h => by rw [Bd.returns] at h; cases h)
      have KF := K27
      rw [hG] at KF
      refine ⟨_, _, KF _ ?_, hrun, hended, _, _, rfl, ?_, ⟨_, rfl⟩, hW, hsame.mono (by decide) (by decide)⟩
      · show Steps p.tables e below (s₁.setTop (mkF m 4 #[.val (.ref a1), .val (.ref a2), .unset] [(.int (0 : Int32)), (.int (1 : Int32))])) _
        refine XS.icmpYes X0.here hx rfl (pc0 := 4) (pc' := 34) rfl (hb hby d13_4) rfl (feq (by decide)).2 (by decide) (by decide) ?_
        show Steps p.tables e below (s₁.setTop (mkF m 34 #[.val (.ref a1), .val (.ref a2), .unset] [])) _
        refine XS.iconst X0.here hx rfl (hb hby d13_34) ?_
        show Steps p.tables e below (s₁.setTop (mkF m 35 #[.val (.ref a1), .val (.ref a2), .unset] [(.int (0 : Int32))])) _
        exact retN X0 hx (t := .boolean) Bd.returns (by simp) (hb hby d13_35) hr
      · show Q13 (1 : Int32) (0 : Int32) [(.int x0)] [] h0 n0 _ s₁.heap _
        rw [e0]
        exact ⟨_, rfl, N0, rfl, Or.inr ⟨rfl, fun q => absurd q.1 (by decide)⟩⟩
    · have K28 : ∀ t, Steps p.tables e below (s₁.setTop (mkF m 1 #[.val (.ref a1), .val (.ref a2), .unset] [(.ref a1)])) t → Steps p.tables e below G t := by
        intro t k
        refine pre0 t ?_
        show Steps p.tables e below (s₁.setTop (mkF m 0 #[.val (.ref a1), .val (.ref a2), .unset] [])) _
        refine XS.aloadN X0.here hx rfl (hb hby d13_0) rfl rfl ?_
        show Steps p.tables e below (s₁.setTop (mkF m 1 #[.val (.ref a1), .val (.ref a2), .unset] [(.ref a1)])) _
        exact k
      obtain ⟨cl29, Ar29, -, S29, M29, -, -⟩ := id V1
      have K30 : ∀ t, Steps p.tables e below (s₁.setTop (mkF m 2 #[.val (.ref a1), .val (.ref a2), .unset] [(.int (1 : Int32))])) t → Steps p.tables e below G t := by
        intro t k
        refine K28 t ?_
        refine X0.arraylength hx (by rw [e0]; exact Ar29.1) (State.isArrayOf_alike hZ.alike Ar29.2.1) (g := (mkF m 1 #[.val (.ref a1), .val (.ref a2), .unset] [(.ref a1)])) rfl rfl (hb hby d13_1) _ ?_
        rw [len_of S29 M29]
        exact k
      have K31 : ∀ t, Steps p.tables e below (s₁.setTop (mkF m 3 #[.val (.ref a1), .val (.ref a2), .unset] [(.ref a2), (.int (1 : Int32))])) t → Steps p.tables e below G t := by
        intro t k
        refine K30 t ?_
        show Steps p.tables e below (s₁.setTop (mkF m 2 #[.val (.ref a1), .val (.ref a2), .unset] [(.int (1 : Int32))])) _
        refine XS.aloadN X0.here hx rfl (hb hby d13_2) rfl rfl ?_
        show Steps p.tables e below (s₁.setTop (mkF m 3 #[.val (.ref a1), .val (.ref a2), .unset] [(.ref a2), (.int (1 : Int32))])) _
        exact k
      obtain ⟨cl32, Ar32, -, S32, M32, -, -⟩ := id V2
      have K33 : ∀ t, Steps p.tables e below (s₁.setTop (mkF m 4 #[.val (.ref a1), .val (.ref a2), .unset] [(.int (1 : Int32)), (.int (1 : Int32))])) t → Steps p.tables e below G t := by
        intro t k
        refine K31 t ?_
        refine X0.arraylength hx (by rw [e0]; exact Ar32.1) (State.isArrayOf_alike hZ.alike Ar32.2.1) (g := (mkF m 3 #[.val (.ref a1), .val (.ref a2), .unset] [(.ref a2), (.int (1 : Int32))])) rfl rfl (hb hby d13_3) _ ?_
        rw [len_of S32 M32]
        exact k
      have K34 : ∀ t, Steps p.tables e below (s₁.setTop (mkF m 11 #[.val (.ref a1), .val (.ref a2), .val (.int (0 : Int32))] [(.ref a1), (.int (0 : Int32))])) t → Steps p.tables e below G t := by
        intro t k
        refine K33 t ?_
        show Steps p.tables e below (s₁.setTop (mkF m 4 #[.val (.ref a1), .val (.ref a2), .unset] [(.int (1 : Int32)), (.int (1 : Int32))])) _
        refine XS.icmpNo X0.here hx rfl (hb hby d13_4) rfl (teq (by decide)).2 ?_
        show Steps p.tables e below (s₁.setTop (mkF m 7 #[.val (.ref a1), .val (.ref a2), .unset] [])) _
        refine XS.iconst X0.here hx rfl (hb hby d13_7) ?_
        show Steps p.tables e below (s₁.setTop (mkF m 8 #[.val (.ref a1), .val (.ref a2), .unset] [(.int (0 : Int32))])) _
        refine XS.istoreN X0.here hx rfl (hb hby d13_8) rfl (l' := #[.val (.ref a1), .val (.ref a2), .val (.int (0 : Int32))]) rfl ?_
        show Steps p.tables e below (s₁.setTop (mkF m 9 #[.val (.ref a1), .val (.ref a2), .val (.int (0 : Int32))] [])) _
        refine XS.iloadN X0.here hx rfl (hb hby d13_9) rfl ?_
        show Steps p.tables e below (s₁.setTop (mkF m 10 #[.val (.ref a1), .val (.ref a2), .val (.int (0 : Int32))] [(.int (0 : Int32))])) _
        refine XS.aloadN X0.here hx rfl (hb hby d13_10) rfl rfl ?_
        show Steps p.tables e below (s₁.setTop (mkF m 11 #[.val (.ref a1), .val (.ref a2), .val (.int (0 : Int32))] [(.ref a1), (.int (0 : Int32))])) _
        exact k
      obtain ⟨cl35, Ar35, -, S35, M35, -, -⟩ := id V1
      have K36 : ∀ t, Steps p.tables e below (s₁.setTop (mkF m 12 #[.val (.ref a1), .val (.ref a2), .val (.int (0 : Int32))] [(.int (1 : Int32)), (.int (0 : Int32))])) t → Steps p.tables e below G t := by
        intro t k
        refine K34 t ?_
        refine X0.arraylength hx (by rw [e0]; exact Ar35.1) (State.isArrayOf_alike hZ.alike Ar35.2.1) (g := (mkF m 11 #[.val (.ref a1), .val (.ref a2), .val (.int (0 : Int32))] [(.ref a1), (.int (0 : Int32))])) rfl rfl (hb hby d13_11) _ ?_
        rw [len_of S35 M35]
        exact k
      have K37 : ∀ t, Steps p.tables e below (s₁.setTop (mkF m 17 #[.val (.ref a1), .val (.ref a2), .val (.int (0 : Int32))] [(.int (0 : Int32)), (.ref a1)])) t → Steps p.tables e below G t := by
        intro t k
        refine K36 t ?_
        show Steps p.tables e below (s₁.setTop (mkF m 12 #[.val (.ref a1), .val (.ref a2), .val (.int (0 : Int32))] [(.int (1 : Int32)), (.int (0 : Int32))])) _
        refine XS.icmpNo X0.here hx rfl (hb hby d13_12) rfl (tlt (by decide)).2.1 ?_
        show Steps p.tables e below (s₁.setTop (mkF m 15 #[.val (.ref a1), .val (.ref a2), .val (.int (0 : Int32))] [])) _
        refine XS.aloadN X0.here hx rfl (hb hby d13_15) rfl rfl ?_
        show Steps p.tables e below (s₁.setTop (mkF m 16 #[.val (.ref a1), .val (.ref a2), .val (.int (0 : Int32))] [(.ref a1)])) _
        refine XS.iloadN X0.here hx rfl (hb hby d13_16) rfl ?_
        show Steps p.tables e below (s₁.setTop (mkF m 17 #[.val (.ref a1), .val (.ref a2), .val (.int (0 : Int32))] [(.int (0 : Int32)), (.ref a1)])) _
        exact k
      obtain ⟨cl38, Ar38, qc38, S38, M38, Ha38, Ga38⟩ := id V1
      have hin38 : ¬ ((0 : Int32) < 0 ∨ cl38.slots.size ≤ ((0 : Int32)).toNatClampNeg) := inb_of S38 ⟨by decide, by decide⟩
      have hat38 : cl38.slots[((0 : Int32)).toNatClampNeg]? = some (.int x0) := Ha38.at hin38 rfl
      have K39 : ∀ t, Steps p.tables e below (s₁.setTop (mkF m 18 #[.val (.ref a1), .val (.ref a2), .val (.int (0 : Int32))] [(.int x0)])) t → Steps p.tables e below G t := fun t k => K37 t (X0.baloadBytes hx (j := (0 : Int32)) (v := (.int x0)) (by rw [e0]; exact Ar38.1) (State.isArrayOf_alike hZ.alike Ar38.2.1) Ar38.2.2 hin38 hat38 (g := (mkF m 17 #[.val (.ref a1), .val (.ref a2), .val (.int (0 : Int32))] [(.int (0 : Int32)), (.ref a1)])) rfl rfl (hb hby d13_17) _ k)
      have K40 : ∀ t, Steps p.tables e below (s₁.setTop (mkF m 20 #[.val (.ref a1), .val (.ref a2), .val (.int (0 : Int32))] [(.int (0 : Int32)), (.ref a2), (.int x0)])) t → Steps p.tables e below G t := by
        intro t k
        refine K39 t ?_
        show Steps p.tables e below (s₁.setTop (mkF m 18 #[.val (.ref a1), .val (.ref a2), .val (.int (0 : Int32))] [(.int x0)])) _
        refine XS.aloadN X0.here hx rfl (hb hby d13_18) rfl rfl ?_
        show Steps p.tables e below (s₁.setTop (mkF m 19 #[.val (.ref a1), .val (.ref a2), .val (.int (0 : Int32))] [(.ref a2), (.int x0)])) _
        refine XS.iloadN X0.here hx rfl (hb hby d13_19) rfl ?_
        show Steps p.tables e below (s₁.setTop (mkF m 20 #[.val (.ref a1), .val (.ref a2), .val (.int (0 : Int32))] [(.int (0 : Int32)), (.ref a2), (.int x0)])) _
        exact k
      obtain ⟨cl41, Ar41, qc41, S41, M41, Ha41, Ga41⟩ := id V2
      have hin41 : ¬ ((0 : Int32) < 0 ∨ cl41.slots.size ≤ ((0 : Int32)).toNatClampNeg) := inb_of S41 ⟨by decide, by decide⟩
      have hat41 : cl41.slots[((0 : Int32)).toNatClampNeg]? = some (.int y0) := Ha41.at hin41 rfl
      have K42 : ∀ t, Steps p.tables e below (s₁.setTop (mkF m 21 #[.val (.ref a1), .val (.ref a2), .val (.int (0 : Int32))] [(.int y0), (.int x0)])) t → Steps p.tables e below G t := fun t k => K40 t (X0.baloadBytes hx (j := (0 : Int32)) (v := (.int y0)) (by rw [e0]; exact Ar41.1) (State.isArrayOf_alike hZ.alike Ar41.2.1) Ar41.2.2 hin41 hat41 (g := (mkF m 20 #[.val (.ref a1), .val (.ref a2), .val (.int (0 : Int32))] [(.int (0 : Int32)), (.ref a2), (.int x0)])) rfl rfl (hb hby d13_20) _ k)
      by_cases hc43 : x0 = y0
      · have K44 : ∀ t, Steps p.tables e below (s₁.setTop (mkF m 11 #[.val (.ref a1), .val (.ref a2), .val (.int (1 : Int32))] [(.ref a1), (.int (1 : Int32))])) t → Steps p.tables e below G t := by
          intro t k
          refine K42 t ?_
          show Steps p.tables e below (s₁.setTop (mkF m 21 #[.val (.ref a1), .val (.ref a2), .val (.int (0 : Int32))] [(.int y0), (.int x0)])) _
          refine XS.icmpYes X0.here hx rfl (pc0 := 21) (pc' := 26) rfl (hb hby d13_21) rfl (teq hc43).1 (by decide) (by decide) ?_
          show Steps p.tables e below (s₁.setTop (mkF m 26 #[.val (.ref a1), .val (.ref a2), .val (.int (0 : Int32))] [])) _
          refine XS.iinc X0.here hx rfl (hb hby d13_26) rfl (l' := #[.val (.ref a1), .val (.ref a2), .val (.int (1 : Int32))]) rfl ?_
          show Steps p.tables e below (s₁.setTop (mkF m 29 #[.val (.ref a1), .val (.ref a2), .val (.int (1 : Int32))] [])) _
          refine XS.goto X0.here hx rfl (pc0 := 29) (pc' := 9) rfl (hb hby d13_29) (by decide) (by decide) ?_
          show Steps p.tables e below (s₁.setTop (mkF m 9 #[.val (.ref a1), .val (.ref a2), .val (.int (1 : Int32))] [])) _
          refine XS.iloadN X0.here hx rfl (hb hby d13_9) rfl ?_
          show Steps p.tables e below (s₁.setTop (mkF m 10 #[.val (.ref a1), .val (.ref a2), .val (.int (1 : Int32))] [(.int (1 : Int32))])) _
          refine XS.aloadN X0.here hx rfl (hb hby d13_10) rfl rfl ?_
          show Steps p.tables e below (s₁.setTop (mkF m 11 #[.val (.ref a1), .val (.ref a2), .val (.int (1 : Int32))] [(.ref a1), (.int (1 : Int32))])) _
          exact k
        obtain ⟨cl45, Ar45, -, S45, M45, -, -⟩ := id V1
        have K46 : ∀ t, Steps p.tables e below (s₁.setTop (mkF m 12 #[.val (.ref a1), .val (.ref a2), .val (.int (1 : Int32))] [(.int (1 : Int32)), (.int (1 : Int32))])) t → Steps p.tables e below G t := by
          intro t k
          refine K44 t ?_
          refine X0.arraylength hx (by rw [e0]; exact Ar45.1) (State.isArrayOf_alike hZ.alike Ar45.2.1) (g := (mkF m 11 #[.val (.ref a1), .val (.ref a2), .val (.int (1 : Int32))] [(.ref a1), (.int (1 : Int32))])) rfl rfl (hb hby d13_11) _ ?_
          rw [len_of S45 M45]
          exact k
        obtain ⟨fs, hr, hrun, hended, hW, hsame⟩ := X0.leave (v := some (.int (1 : Int32))) (fun h => by rw [Bd.returns] at h; cases h)
        have KF := K46
        rw [hG] at KF
        refine ⟨_, _, KF _ ?_, hrun, hended, _, _, rfl, ?_, ⟨_, rfl⟩, hW, hsame.mono (by decide) (by decide)⟩
        · show Steps p.tables e below (s₁.setTop (mkF m 12 #[.val (.ref a1), .val (.ref a2), .val (.int (1 : Int32))] [(.int (1 : Int32)), (.int (1 : Int32))])) _
          refine XS.icmpYes X0.here hx rfl (pc0 := 12) (pc' := 32) rfl (hb hby d13_12) rfl (flt (by decide)).2.1 (by decide) (by decide) ?_
          show Steps p.tables e below (s₁.setTop (mkF m 32 #[.val (.ref a1), .val (.ref a2), .val (.int (1 : Int32))] [])) _
          refine XS.iconst X0.here hx rfl (hb hby d13_32) ?_
          show Steps p.tables e below (s₁.setTop (mkF m 33 #[.val (.ref a1), .val (.ref a2), .val (.int (1 : Int32))] [(.int (1 : Int32))])) _
          exact retN X0 hx (t := .boolean) Bd.returns (by simp) (hb hby d13_33) hr
        · show Q13 (1 : Int32) (1 : Int32) [(.int x0)] [(.int y0)] h0 n0 _ s₁.heap _
          rw [e0]
          exact ⟨_, rfl, N0, rfl, Or.inl ⟨rfl, rfl, by rw [hc43]⟩⟩
      · obtain ⟨fs, hr, hrun, hended, hW, hsame⟩ := X0.leave (v := some (.int (0 : Int32))) (fun h => by rw [Bd.returns] at h; cases h)
        have KF := K42
        rw [hG] at KF
        refine ⟨_, _, KF _ ?_, hrun, hended, _, _, rfl, ?_, ⟨_, rfl⟩, hW, hsame.mono (by decide) (by decide)⟩
        · show Steps p.tables e below (s₁.setTop (mkF m 21 #[.val (.ref a1), .val (.ref a2), .val (.int (0 : Int32))] [(.int y0), (.int x0)])) _
          refine XS.icmpNo X0.here hx rfl (hb hby d13_21) rfl (feq hc43).1 ?_
          show Steps p.tables e below (s₁.setTop (mkF m 24 #[.val (.ref a1), .val (.ref a2), .val (.int (0 : Int32))] [])) _
          refine XS.iconst X0.here hx rfl (hb hby d13_24) ?_
          show Steps p.tables e below (s₁.setTop (mkF m 25 #[.val (.ref a1), .val (.ref a2), .val (.int (0 : Int32))] [(.int (0 : Int32))])) _
          exact retN X0 hx (t := .boolean) Bd.returns (by simp) (hb hby d13_25) hr
        · show Q13 (1 : Int32) (1 : Int32) [(.int x0)] [(.int y0)] h0 n0 _ s₁.heap _
          rw [e0]
          exact ⟨_, rfl, N0, rfl, Or.inr ⟨rfl, fun q => hc43 (Value.int.inj (List.cons.inj q.2).1)⟩⟩
    · have K47 : ∀ t, Steps p.tables e below (s₁.setTop (mkF m 1 #[.val (.ref a1), .val (.ref a2), .unset] [(.ref a1)])) t → Steps p.tables e below G t := by
        intro t k
        refine pre0 t ?_
        show Steps p.tables e below (s₁.setTop (mkF m 0 #[.val (.ref a1), .val (.ref a2), .unset] [])) _
        refine XS.aloadN X0.here hx rfl (hb hby d13_0) rfl rfl ?_
        show Steps p.tables e below (s₁.setTop (mkF m 1 #[.val (.ref a1), .val (.ref a2), .unset] [(.ref a1)])) _
        exact k
      obtain ⟨cl48, Ar48, -, S48, M48, -, -⟩ := id V1
      have K49 : ∀ t, Steps p.tables e below (s₁.setTop (mkF m 2 #[.val (.ref a1), .val (.ref a2), .unset] [(.int (1 : Int32))])) t → Steps p.tables e below G t := by
        intro t k
        refine K47 t ?_
        refine X0.arraylength hx (by rw [e0]; exact Ar48.1) (State.isArrayOf_alike hZ.alike Ar48.2.1) (g := (mkF m 1 #[.val (.ref a1), .val (.ref a2), .unset] [(.ref a1)])) rfl rfl (hb hby d13_1) _ ?_
        rw [len_of S48 M48]
        exact k
      have K50 : ∀ t, Steps p.tables e below (s₁.setTop (mkF m 3 #[.val (.ref a1), .val (.ref a2), .unset] [(.ref a2), (.int (1 : Int32))])) t → Steps p.tables e below G t := by
        intro t k
        refine K49 t ?_
        show Steps p.tables e below (s₁.setTop (mkF m 2 #[.val (.ref a1), .val (.ref a2), .unset] [(.int (1 : Int32))])) _
        refine XS.aloadN X0.here hx rfl (hb hby d13_2) rfl rfl ?_
        show Steps p.tables e below (s₁.setTop (mkF m 3 #[.val (.ref a1), .val (.ref a2), .unset] [(.ref a2), (.int (1 : Int32))])) _
        exact k
      obtain ⟨cl51, Ar51, -, S51, M51, -, -⟩ := id V2
      have K52 : ∀ t, Steps p.tables e below (s₁.setTop (mkF m 4 #[.val (.ref a1), .val (.ref a2), .unset] [(.int (2 : Int32)), (.int (1 : Int32))])) t → Steps p.tables e below G t := by
        intro t k
        refine K50 t ?_
        refine X0.arraylength hx (by rw [e0]; exact Ar51.1) (State.isArrayOf_alike hZ.alike Ar51.2.1) (g := (mkF m 3 #[.val (.ref a1), .val (.ref a2), .unset] [(.ref a2), (.int (1 : Int32))])) rfl rfl (hb hby d13_3) _ ?_
        rw [len_of S51 M51]
        exact k
      obtain ⟨fs, hr, hrun, hended, hW, hsame⟩ := X0.leave (v := some (.int (0 : Int32))) (fun h => by rw [Bd.returns] at h; cases h)
      have KF := K52
      rw [hG] at KF
      refine ⟨_, _, KF _ ?_, hrun, hended, _, _, rfl, ?_, ⟨_, rfl⟩, hW, hsame.mono (by decide) (by decide)⟩
      · show Steps p.tables e below (s₁.setTop (mkF m 4 #[.val (.ref a1), .val (.ref a2), .unset] [(.int (2 : Int32)), (.int (1 : Int32))])) _
        refine XS.icmpYes X0.here hx rfl (pc0 := 4) (pc' := 34) rfl (hb hby d13_4) rfl (feq (by decide)).2 (by decide) (by decide) ?_
        show Steps p.tables e below (s₁.setTop (mkF m 34 #[.val (.ref a1), .val (.ref a2), .unset] [])) _
        refine XS.iconst X0.here hx rfl (hb hby d13_34) ?_
        show Steps p.tables e below (s₁.setTop (mkF m 35 #[.val (.ref a1), .val (.ref a2), .unset] [(.int (0 : Int32))])) _
        exact retN X0 hx (t := .boolean) Bd.returns (by simp) (hb hby d13_35) hr
      · show Q13 (1 : Int32) (2 : Int32) [(.int x0)] [(.int y0), (.int y1)] h0 n0 _ s₁.heap _
        rw [e0]
        exact ⟨_, rfl, N0, rfl, Or.inr ⟨rfl, fun q => absurd q.1 (by decide)⟩⟩
  · rcases f2 with ⟨rfl, rfl⟩ | ⟨y0, rfl, rfl⟩ | ⟨y0, y1, rfl, rfl⟩
    · have K53 : ∀ t, Steps p.tables e below (s₁.setTop (mkF m 1 #[.val (.ref a1), .val (.ref a2), .unset] [(.ref a1)])) t → Steps p.tables e below G t := by
        intro t k
        refine pre0 t ?_
        show Steps p.tables e below (s₁.setTop (mkF m 0 #[.val (.ref a1), .val (.ref a2), .unset] [])) _
        refine XS.aloadN X0.here hx rfl (hb hby d13_0) rfl rfl ?_
        show Steps p.tables e below (s₁.setTop (mkF m 1 #[.val (.ref a1), .val (.ref a2), .unset] [(.ref a1)])) _
        exact k
      obtain ⟨cl54, Ar54, -, S54, M54, -, -⟩ := id V1
      have K55 : ∀ t, Steps p.tables e below (s₁.setTop (mkF m 2 #[.val (.ref a1), .val (.ref a2), .unset] [(.int (2 : Int32))])) t → Steps p.tables e below G t := by
        intro t k
        refine K53 t ?_
        refine X0.arraylength hx (by rw [e0]; exact Ar54.1) (State.isArrayOf_alike hZ.alike Ar54.2.1) (g := (mkF m 1 #[.val (.ref a1), .val (.ref a2), .unset] [(.ref a1)])) rfl rfl (hb hby d13_1) _ ?_
        rw [len_of S54 M54]
        exact k
      have K56 : ∀ t, Steps p.tables e below (s₁.setTop (mkF m 3 #[.val (.ref a1), .val (.ref a2), .unset] [(.ref a2), (.int (2 : Int32))])) t → Steps p.tables e below G t := by
        intro t k
        refine K55 t ?_
        show Steps p.tables e below (s₁.setTop (mkF m 2 #[.val (.ref a1), .val (.ref a2), .unset] [(.int (2 : Int32))])) _
        refine XS.aloadN X0.here hx rfl (hb hby d13_2) rfl rfl ?_
        show Steps p.tables e below (s₁.setTop (mkF m 3 #[.val (.ref a1), .val (.ref a2), .unset] [(.ref a2), (.int (2 : Int32))])) _
        exact k
      obtain ⟨cl57, Ar57, -, S57, M57, -, -⟩ := id V2
      have K58 : ∀ t, Steps p.tables e below (s₁.setTop (mkF m 4 #[.val (.ref a1), .val (.ref a2), .unset] [(.int (0 : Int32)), (.int (2 : Int32))])) t → Steps p.tables e below G t := by
        intro t k
        refine K56 t ?_
        refine X0.arraylength hx (by rw [e0]; exact Ar57.1) (State.isArrayOf_alike hZ.alike Ar57.2.1) (g := (mkF m 3 #[.val (.ref a1), .val (.ref a2), .unset] [(.ref a2), (.int (2 : Int32))])) rfl rfl (hb hby d13_3) _ ?_
        rw [len_of S57 M57]
        exact k
      obtain ⟨fs, hr, hrun, hended, hW, hsame⟩ := X0.leave (v := some (.int (0 : Int32))) (fun h => by rw [Bd.returns] at h; cases h)
      have KF := K58
      rw [hG] at KF
      refine ⟨_, _, KF _ ?_, hrun, hended, _, _, rfl, ?_, ⟨_, rfl⟩, hW, hsame.mono (by decide) (by decide)⟩
      · show Steps p.tables e below (s₁.setTop (mkF m 4 #[.val (.ref a1), .val (.ref a2), .unset] [(.int (0 : Int32)), (.int (2 : Int32))])) _
        refine XS.icmpYes X0.here hx rfl (pc0 := 4) (pc' := 34) rfl (hb hby d13_4) rfl (feq (by decide)).2 (by decide) (by decide) ?_
        show Steps p.tables e below (s₁.setTop (mkF m 34 #[.val (.ref a1), .val (.ref a2), .unset] [])) _
        refine XS.iconst X0.here hx rfl (hb hby d13_34) ?_
        show Steps p.tables e below (s₁.setTop (mkF m 35 #[.val (.ref a1), .val (.ref a2), .unset] [(.int (0 : Int32))])) _
        exact retN X0 hx (t := .boolean) Bd.returns (by simp) (hb hby d13_35) hr
      · show Q13 (2 : Int32) (0 : Int32) [(.int x0), (.int x1)] [] h0 n0 _ s₁.heap _
        rw [e0]
        exact ⟨_, rfl, N0, rfl, Or.inr ⟨rfl, fun q => absurd q.1 (by decide)⟩⟩
    · have K59 : ∀ t, Steps p.tables e below (s₁.setTop (mkF m 1 #[.val (.ref a1), .val (.ref a2), .unset] [(.ref a1)])) t → Steps p.tables e below G t := by
        intro t k
        refine pre0 t ?_
        show Steps p.tables e below (s₁.setTop (mkF m 0 #[.val (.ref a1), .val (.ref a2), .unset] [])) _
        refine XS.aloadN X0.here hx rfl (hb hby d13_0) rfl rfl ?_
        show Steps p.tables e below (s₁.setTop (mkF m 1 #[.val (.ref a1), .val (.ref a2), .unset] [(.ref a1)])) _
        exact k
      obtain ⟨cl60, Ar60, -, S60, M60, -, -⟩ := id V1
      have K61 : ∀ t, Steps p.tables e below (s₁.setTop (mkF m 2 #[.val (.ref a1), .val (.ref a2), .unset] [(.int (2 : Int32))])) t → Steps p.tables e below G t := by
        intro t k
        refine K59 t ?_
        refine X0.arraylength hx (by rw [e0]; exact Ar60.1) (State.isArrayOf_alike hZ.alike Ar60.2.1) (g := (mkF m 1 #[.val (.ref a1), .val (.ref a2), .unset] [(.ref a1)])) rfl rfl (hb hby d13_1) _ ?_
        rw [len_of S60 M60]
        exact k
      have K62 : ∀ t, Steps p.tables e below (s₁.setTop (mkF m 3 #[.val (.ref a1), .val (.ref a2), .unset] [(.ref a2), (.int (2 : Int32))])) t → Steps p.tables e below G t := by
        intro t k
        refine K61 t ?_
        show Steps p.tables e below (s₁.setTop (mkF m 2 #[.val (.ref a1), .val (.ref a2), .unset] [(.int (2 : Int32))])) _
        refine XS.aloadN X0.here hx rfl (hb hby d13_2) rfl rfl ?_
        show Steps p.tables e below (s₁.setTop (mkF m 3 #[.val (.ref a1), .val (.ref a2), .unset] [(.ref a2), (.int (2 : Int32))])) _
        exact k
      obtain ⟨cl63, Ar63, -, S63, M63, -, -⟩ := id V2
      have K64 : ∀ t, Steps p.tables e below (s₁.setTop (mkF m 4 #[.val (.ref a1), .val (.ref a2), .unset] [(.int (1 : Int32)), (.int (2 : Int32))])) t → Steps p.tables e below G t := by
        intro t k
        refine K62 t ?_
        refine X0.arraylength hx (by rw [e0]; exact Ar63.1) (State.isArrayOf_alike hZ.alike Ar63.2.1) (g := (mkF m 3 #[.val (.ref a1), .val (.ref a2), .unset] [(.ref a2), (.int (2 : Int32))])) rfl rfl (hb hby d13_3) _ ?_
        rw [len_of S63 M63]
        exact k
      obtain ⟨fs, hr, hrun, hended, hW, hsame⟩ := X0.leave (v := some (.int (0 : Int32))) (fun h => by rw [Bd.returns] at h; cases h)
      have KF := K64
      rw [hG] at KF
      refine ⟨_, _, KF _ ?_, hrun, hended, _, _, rfl, ?_, ⟨_, rfl⟩, hW, hsame.mono (by decide) (by decide)⟩
      · show Steps p.tables e below (s₁.setTop (mkF m 4 #[.val (.ref a1), .val (.ref a2), .unset] [(.int (1 : Int32)), (.int (2 : Int32))])) _
        refine XS.icmpYes X0.here hx rfl (pc0 := 4) (pc' := 34) rfl (hb hby d13_4) rfl (feq (by decide)).2 (by decide) (by decide) ?_
        show Steps p.tables e below (s₁.setTop (mkF m 34 #[.val (.ref a1), .val (.ref a2), .unset] [])) _
        refine XS.iconst X0.here hx rfl (hb hby d13_34) ?_
        show Steps p.tables e below (s₁.setTop (mkF m 35 #[.val (.ref a1), .val (.ref a2), .unset] [(.int (0 : Int32))])) _
        exact retN X0 hx (t := .boolean) Bd.returns (by simp) (hb hby d13_35) hr
      · show Q13 (2 : Int32) (1 : Int32) [(.int x0), (.int x1)] [(.int y0)] h0 n0 _ s₁.heap _
        rw [e0]
        exact ⟨_, rfl, N0, rfl, Or.inr ⟨rfl, fun q => absurd q.1 (by decide)⟩⟩
    · have K65 : ∀ t, Steps p.tables e below (s₁.setTop (mkF m 1 #[.val (.ref a1), .val (.ref a2), .unset] [(.ref a1)])) t → Steps p.tables e below G t := by
        intro t k
        refine pre0 t ?_
        show Steps p.tables e below (s₁.setTop (mkF m 0 #[.val (.ref a1), .val (.ref a2), .unset] [])) _
        refine XS.aloadN X0.here hx rfl (hb hby d13_0) rfl rfl ?_
        show Steps p.tables e below (s₁.setTop (mkF m 1 #[.val (.ref a1), .val (.ref a2), .unset] [(.ref a1)])) _
        exact k
      obtain ⟨cl66, Ar66, -, S66, M66, -, -⟩ := id V1
      have K67 : ∀ t, Steps p.tables e below (s₁.setTop (mkF m 2 #[.val (.ref a1), .val (.ref a2), .unset] [(.int (2 : Int32))])) t → Steps p.tables e below G t := by
        intro t k
        refine K65 t ?_
        refine X0.arraylength hx (by rw [e0]; exact Ar66.1) (State.isArrayOf_alike hZ.alike Ar66.2.1) (g := (mkF m 1 #[.val (.ref a1), .val (.ref a2), .unset] [(.ref a1)])) rfl rfl (hb hby d13_1) _ ?_
        rw [len_of S66 M66]
        exact k
      have K68 : ∀ t, Steps p.tables e below (s₁.setTop (mkF m 3 #[.val (.ref a1), .val (.ref a2), .unset] [(.ref a2), (.int (2 : Int32))])) t → Steps p.tables e below G t := by
        intro t k
        refine K67 t ?_
        show Steps p.tables e below (s₁.setTop (mkF m 2 #[.val (.ref a1), .val (.ref a2), .unset] [(.int (2 : Int32))])) _
        refine XS.aloadN X0.here hx rfl (hb hby d13_2) rfl rfl ?_
        show Steps p.tables e below (s₁.setTop (mkF m 3 #[.val (.ref a1), .val (.ref a2), .unset] [(.ref a2), (.int (2 : Int32))])) _
        exact k
      obtain ⟨cl69, Ar69, -, S69, M69, -, -⟩ := id V2
      have K70 : ∀ t, Steps p.tables e below (s₁.setTop (mkF m 4 #[.val (.ref a1), .val (.ref a2), .unset] [(.int (2 : Int32)), (.int (2 : Int32))])) t → Steps p.tables e below G t := by
        intro t k
        refine K68 t ?_
        refine X0.arraylength hx (by rw [e0]; exact Ar69.1) (State.isArrayOf_alike hZ.alike Ar69.2.1) (g := (mkF m 3 #[.val (.ref a1), .val (.ref a2), .unset] [(.ref a2), (.int (2 : Int32))])) rfl rfl (hb hby d13_3) _ ?_
        rw [len_of S69 M69]
        exact k
      have K71 : ∀ t, Steps p.tables e below (s₁.setTop (mkF m 11 #[.val (.ref a1), .val (.ref a2), .val (.int (0 : Int32))] [(.ref a1), (.int (0 : Int32))])) t → Steps p.tables e below G t := by
        intro t k
        refine K70 t ?_
        show Steps p.tables e below (s₁.setTop (mkF m 4 #[.val (.ref a1), .val (.ref a2), .unset] [(.int (2 : Int32)), (.int (2 : Int32))])) _
        refine XS.icmpNo X0.here hx rfl (hb hby d13_4) rfl (teq (by decide)).2 ?_
        show Steps p.tables e below (s₁.setTop (mkF m 7 #[.val (.ref a1), .val (.ref a2), .unset] [])) _
        refine XS.iconst X0.here hx rfl (hb hby d13_7) ?_
        show Steps p.tables e below (s₁.setTop (mkF m 8 #[.val (.ref a1), .val (.ref a2), .unset] [(.int (0 : Int32))])) _
        refine XS.istoreN X0.here hx rfl (hb hby d13_8) rfl (l' := #[.val (.ref a1), .val (.ref a2), .val (.int (0 : Int32))]) rfl ?_
        show Steps p.tables e below (s₁.setTop (mkF m 9 #[.val (.ref a1), .val (.ref a2), .val (.int (0 : Int32))] [])) _
        refine XS.iloadN X0.here hx rfl (hb hby d13_9) rfl ?_
        show Steps p.tables e below (s₁.setTop (mkF m 10 #[.val (.ref a1), .val (.ref a2), .val (.int (0 : Int32))] [(.int (0 : Int32))])) _
        refine XS.aloadN X0.here hx rfl (hb hby d13_10) rfl rfl ?_
        show Steps p.tables e below (s₁.setTop (mkF m 11 #[.val (.ref a1), .val (.ref a2), .val (.int (0 : Int32))] [(.ref a1), (.int (0 : Int32))])) _
        exact k
      obtain ⟨cl72, Ar72, -, S72, M72, -, -⟩ := id V1
      have K73 : ∀ t, Steps p.tables e below (s₁.setTop (mkF m 12 #[.val (.ref a1), .val (.ref a2), .val (.int (0 : Int32))] [(.int (2 : Int32)), (.int (0 : Int32))])) t → Steps p.tables e below G t := by
        intro t k
        refine K71 t ?_
        refine X0.arraylength hx (by rw [e0]; exact Ar72.1) (State.isArrayOf_alike hZ.alike Ar72.2.1) (g := (mkF m 11 #[.val (.ref a1), .val (.ref a2), .val (.int (0 : Int32))] [(.ref a1), (.int (0 : Int32))])) rfl rfl (hb hby d13_11) _ ?_
        rw [len_of S72 M72]
        exact k
      have K74 : ∀ t, Steps p.tables e below (s₁.setTop (mkF m 17 #[.val (.ref a1), .val (.ref a2), .val (.int (0 : Int32))] [(.int (0 : Int32)), (.ref a1)])) t → Steps p.tables e below G t := by
        intro t k
        refine K73 t ?_
        show Steps p.tables e below (s₁.setTop (mkF m 12 #[.val (.ref a1), .val (.ref a2), .val (.int (0 : Int32))] [(.int (2 : Int32)), (.int (0 : Int32))])) _
        refine XS.icmpNo X0.here hx rfl (hb hby d13_12) rfl (tlt (by decide)).2.1 ?_
        show Steps p.tables e below (s₁.setTop (mkF m 15 #[.val (.ref a1), .val (.ref a2), .val (.int (0 : Int32))] [])) _
        refine XS.aloadN X0.here hx rfl (hb hby d13_15) rfl rfl ?_
        show Steps p.tables e below (s₁.setTop (mkF m 16 #[.val (.ref a1), .val (.ref a2), .val (.int (0 : Int32))] [(.ref a1)])) _
        refine XS.iloadN X0.here hx rfl (hb hby d13_16) rfl ?_
        show Steps p.tables e below (s₁.setTop (mkF m 17 #[.val (.ref a1), .val (.ref a2), .val (.int (0 : Int32))] [(.int (0 : Int32)), (.ref a1)])) _
        exact k
      obtain ⟨cl75, Ar75, qc75, S75, M75, Ha75, Ga75⟩ := id V1
      have hin75 : ¬ ((0 : Int32) < 0 ∨ cl75.slots.size ≤ ((0 : Int32)).toNatClampNeg) := inb_of S75 ⟨by decide, by decide⟩
      have hat75 : cl75.slots[((0 : Int32)).toNatClampNeg]? = some (.int x0) := Ha75.at hin75 rfl
      have K76 : ∀ t, Steps p.tables e below (s₁.setTop (mkF m 18 #[.val (.ref a1), .val (.ref a2), .val (.int (0 : Int32))] [(.int x0)])) t → Steps p.tables e below G t := fun t k => K74 t (X0.baloadBytes hx (j := (0 : Int32)) (v := (.int x0)) (by rw [e0]; exact Ar75.1) (State.isArrayOf_alike hZ.alike Ar75.2.1) Ar75.2.2 hin75 hat75 (g := (mkF m 17 #[.val (.ref a1), .val (.ref a2), .val (.int (0 : Int32))] [(.int (0 : Int32)), (.ref a1)])) rfl rfl (hb hby d13_17) _ k)
      have K77 : ∀ t, Steps p.tables e below (s₁.setTop (mkF m 20 #[.val (.ref a1), .val (.ref a2), .val (.int (0 : Int32))] [(.int (0 : Int32)), (.ref a2), (.int x0)])) t → Steps p.tables e below G t := by
        intro t k
        refine K76 t ?_
        show Steps p.tables e below (s₁.setTop (mkF m 18 #[.val (.ref a1), .val (.ref a2), .val (.int (0 : Int32))] [(.int x0)])) _
        refine XS.aloadN X0.here hx rfl (hb hby d13_18) rfl rfl ?_
        show Steps p.tables e below (s₁.setTop (mkF m 19 #[.val (.ref a1), .val (.ref a2), .val (.int (0 : Int32))] [(.ref a2), (.int x0)])) _
        refine XS.iloadN X0.here hx rfl (hb hby d13_19) rfl ?_
        show Steps p.tables e below (s₁.setTop (mkF m 20 #[.val (.ref a1), .val (.ref a2), .val (.int (0 : Int32))] [(.int (0 : Int32)), (.ref a2), (.int x0)])) _
        exact k
      obtain ⟨cl78, Ar78, qc78, S78, M78, Ha78, Ga78⟩ := id V2
      have hin78 : ¬ ((0 : Int32) < 0 ∨ cl78.slots.size ≤ ((0 : Int32)).toNatClampNeg) := inb_of S78 ⟨by decide, by decide⟩
      have hat78 : cl78.slots[((0 : Int32)).toNatClampNeg]? = some (.int y0) := Ha78.at hin78 rfl
      have K79 : ∀ t, Steps p.tables e below (s₁.setTop (mkF m 21 #[.val (.ref a1), .val (.ref a2), .val (.int (0 : Int32))] [(.int y0), (.int x0)])) t → Steps p.tables e below G t := fun t k => K77 t (X0.baloadBytes hx (j := (0 : Int32)) (v := (.int y0)) (by rw [e0]; exact Ar78.1) (State.isArrayOf_alike hZ.alike Ar78.2.1) Ar78.2.2 hin78 hat78 (g := (mkF m 20 #[.val (.ref a1), .val (.ref a2), .val (.int (0 : Int32))] [(.int (0 : Int32)), (.ref a2), (.int x0)])) rfl rfl (hb hby d13_20) _ k)
      by_cases hc80 : x0 = y0
      · have K81 : ∀ t, Steps p.tables e below (s₁.setTop (mkF m 11 #[.val (.ref a1), .val (.ref a2), .val (.int (1 : Int32))] [(.ref a1), (.int (1 : Int32))])) t → Steps p.tables e below G t := by
          intro t k
          refine K79 t ?_
          show Steps p.tables e below (s₁.setTop (mkF m 21 #[.val (.ref a1), .val (.ref a2), .val (.int (0 : Int32))] [(.int y0), (.int x0)])) _
          refine XS.icmpYes X0.here hx rfl (pc0 := 21) (pc' := 26) rfl (hb hby d13_21) rfl (teq hc80).1 (by decide) (by decide) ?_
          show Steps p.tables e below (s₁.setTop (mkF m 26 #[.val (.ref a1), .val (.ref a2), .val (.int (0 : Int32))] [])) _
          refine XS.iinc X0.here hx rfl (hb hby d13_26) rfl (l' := #[.val (.ref a1), .val (.ref a2), .val (.int (1 : Int32))]) rfl ?_
          show Steps p.tables e below (s₁.setTop (mkF m 29 #[.val (.ref a1), .val (.ref a2), .val (.int (1 : Int32))] [])) _
          refine XS.goto X0.here hx rfl (pc0 := 29) (pc' := 9) rfl (hb hby d13_29) (by decide) (by decide) ?_
          show Steps p.tables e below (s₁.setTop (mkF m 9 #[.val (.ref a1), .val (.ref a2), .val (.int (1 : Int32))] [])) _
          refine XS.iloadN X0.here hx rfl (hb hby d13_9) rfl ?_
          show Steps p.tables e below (s₁.setTop (mkF m 10 #[.val (.ref a1), .val (.ref a2), .val (.int (1 : Int32))] [(.int (1 : Int32))])) _
          refine XS.aloadN X0.here hx rfl (hb hby d13_10) rfl rfl ?_
          show Steps p.tables e below (s₁.setTop (mkF m 11 #[.val (.ref a1), .val (.ref a2), .val (.int (1 : Int32))] [(.ref a1), (.int (1 : Int32))])) _
          exact k
        obtain ⟨cl82, Ar82, -, S82, M82, -, -⟩ := id V1
        have K83 : ∀ t, Steps p.tables e below (s₁.setTop (mkF m 12 #[.val (.ref a1), .val (.ref a2), .val (.int (1 : Int32))] [(.int (2 : Int32)), (.int (1 : Int32))])) t → Steps p.tables e below G t := by
          intro t k
          refine K81 t ?_
          refine X0.arraylength hx (by rw [e0]; exact Ar82.1) (State.isArrayOf_alike hZ.alike Ar82.2.1) (g := (mkF m 11 #[.val (.ref a1), .val (.ref a2), .val (.int (1 : Int32))] [(.ref a1), (.int (1 : Int32))])) rfl rfl (hb hby d13_11) _ ?_
          rw [len_of S82 M82]
          exact k
        have K84 : ∀ t, Steps p.tables e below (s₁.setTop (mkF m 17 #[.val (.ref a1), .val (.ref a2), .val (.int (1 : Int32))] [(.int (1 : Int32)), (.ref a1)])) t → Steps p.tables e below G t := by
          intro t k
          refine K83 t ?_
          show Steps p.tables e below (s₁.setTop (mkF m 12 #[.val (.ref a1), .val (.ref a2), .val (.int (1 : Int32))] [(.int (2 : Int32)), (.int (1 : Int32))])) _
          refine XS.icmpNo X0.here hx rfl (hb hby d13_12) rfl (tlt (by decide)).2.1 ?_
          show Steps p.tables e below (s₁.setTop (mkF m 15 #[.val (.ref a1), .val (.ref a2), .val (.int (1 : Int32))] [])) _
          refine XS.aloadN X0.here hx rfl (hb hby d13_15) rfl rfl ?_
          show Steps p.tables e below (s₁.setTop (mkF m 16 #[.val (.ref a1), .val (.ref a2), .val (.int (1 : Int32))] [(.ref a1)])) _
          refine XS.iloadN X0.here hx rfl (hb hby d13_16) rfl ?_
          show Steps p.tables e below (s₁.setTop (mkF m 17 #[.val (.ref a1), .val (.ref a2), .val (.int (1 : Int32))] [(.int (1 : Int32)), (.ref a1)])) _
          exact k
        obtain ⟨cl85, Ar85, qc85, S85, M85, Ha85, Ga85⟩ := id V1
        have hin85 : ¬ ((1 : Int32) < 0 ∨ cl85.slots.size ≤ ((1 : Int32)).toNatClampNeg) := inb_of S85 ⟨by decide, by decide⟩
        have hat85 : cl85.slots[((1 : Int32)).toNatClampNeg]? = some (.int x1) := Ha85.at hin85 rfl
        have K86 : ∀ t, Steps p.tables e below (s₁.setTop (mkF m 18 #[.val (.ref a1), .val (.ref a2), .val (.int (1 : Int32))] [(.int x1)])) t → Steps p.tables e below G t := fun t k => K84 t (X0.baloadBytes hx (j := (1 : Int32)) (v := (.int x1)) (by rw [e0]; exact Ar85.1) (State.isArrayOf_alike hZ.alike Ar85.2.1) Ar85.2.2 hin85 hat85 (g := (mkF m 17 #[.val (.ref a1), .val (.ref a2), .val (.int (1 : Int32))] [(.int (1 : Int32)), (.ref a1)])) rfl rfl (hb hby d13_17) _ k)
        have K87 : ∀ t, Steps p.tables e below (s₁.setTop (mkF m 20 #[.val (.ref a1), .val (.ref a2), .val (.int (1 : Int32))] [(.int (1 : Int32)), (.ref a2), (.int x1)])) t → Steps p.tables e below G t := by
          intro t k
          refine K86 t ?_
          show Steps p.tables e below (s₁.setTop (mkF m 18 #[.val (.ref a1), .val (.ref a2), .val (.int (1 : Int32))] [(.int x1)])) _
          refine XS.aloadN X0.here hx rfl (hb hby d13_18) rfl rfl ?_
          show Steps p.tables e below (s₁.setTop (mkF m 19 #[.val (.ref a1), .val (.ref a2), .val (.int (1 : Int32))] [(.ref a2), (.int x1)])) _
          refine XS.iloadN X0.here hx rfl (hb hby d13_19) rfl ?_
          show Steps p.tables e below (s₁.setTop (mkF m 20 #[.val (.ref a1), .val (.ref a2), .val (.int (1 : Int32))] [(.int (1 : Int32)), (.ref a2), (.int x1)])) _
          exact k
        obtain ⟨cl88, Ar88, qc88, S88, M88, Ha88, Ga88⟩ := id V2
        have hin88 : ¬ ((1 : Int32) < 0 ∨ cl88.slots.size ≤ ((1 : Int32)).toNatClampNeg) := inb_of S88 ⟨by decide, by decide⟩
        have hat88 : cl88.slots[((1 : Int32)).toNatClampNeg]? = some (.int y1) := Ha88.at hin88 rfl
        have K89 : ∀ t, Steps p.tables e below (s₁.setTop (mkF m 21 #[.val (.ref a1), .val (.ref a2), .val (.int (1 : Int32))] [(.int y1), (.int x1)])) t → Steps p.tables e below G t := fun t k => K87 t (X0.baloadBytes hx (j := (1 : Int32)) (v := (.int y1)) (by rw [e0]; exact Ar88.1) (State.isArrayOf_alike hZ.alike Ar88.2.1) Ar88.2.2 hin88 hat88 (g := (mkF m 20 #[.val (.ref a1), .val (.ref a2), .val (.int (1 : Int32))] [(.int (1 : Int32)), (.ref a2), (.int x1)])) rfl rfl (hb hby d13_20) _ k)
        by_cases hc90 : x1 = y1
        · have K91 : ∀ t, Steps p.tables e below (s₁.setTop (mkF m 11 #[.val (.ref a1), .val (.ref a2), .val (.int (2 : Int32))] [(.ref a1), (.int (2 : Int32))])) t → Steps p.tables e below G t := by
            intro t k
            refine K89 t ?_
            show Steps p.tables e below (s₁.setTop (mkF m 21 #[.val (.ref a1), .val (.ref a2), .val (.int (1 : Int32))] [(.int y1), (.int x1)])) _
            refine XS.icmpYes X0.here hx rfl (pc0 := 21) (pc' := 26) rfl (hb hby d13_21) rfl (teq hc90).1 (by decide) (by decide) ?_
            show Steps p.tables e below (s₁.setTop (mkF m 26 #[.val (.ref a1), .val (.ref a2), .val (.int (1 : Int32))] [])) _
            refine XS.iinc X0.here hx rfl (hb hby d13_26) rfl (l' := #[.val (.ref a1), .val (.ref a2), .val (.int (2 : Int32))]) rfl ?_
            show Steps p.tables e below (s₁.setTop (mkF m 29 #[.val (.ref a1), .val (.ref a2), .val (.int (2 : Int32))] [])) _
            refine XS.goto X0.here hx rfl (pc0 := 29) (pc' := 9) rfl (hb hby d13_29) (by decide) (by decide) ?_
            show Steps p.tables e below (s₁.setTop (mkF m 9 #[.val (.ref a1), .val (.ref a2), .val (.int (2 : Int32))] [])) _
            refine XS.iloadN X0.here hx rfl (hb hby d13_9) rfl ?_
            show Steps p.tables e below (s₁.setTop (mkF m 10 #[.val (.ref a1), .val (.ref a2), .val (.int (2 : Int32))] [(.int (2 : Int32))])) _
            refine XS.aloadN X0.here hx rfl (hb hby d13_10) rfl rfl ?_
            show Steps p.tables e below (s₁.setTop (mkF m 11 #[.val (.ref a1), .val (.ref a2), .val (.int (2 : Int32))] [(.ref a1), (.int (2 : Int32))])) _
            exact k
          obtain ⟨cl92, Ar92, -, S92, M92, -, -⟩ := id V1
          have K93 : ∀ t, Steps p.tables e below (s₁.setTop (mkF m 12 #[.val (.ref a1), .val (.ref a2), .val (.int (2 : Int32))] [(.int (2 : Int32)), (.int (2 : Int32))])) t → Steps p.tables e below G t := by
            intro t k
            refine K91 t ?_
            refine X0.arraylength hx (by rw [e0]; exact Ar92.1) (State.isArrayOf_alike hZ.alike Ar92.2.1) (g := (mkF m 11 #[.val (.ref a1), .val (.ref a2), .val (.int (2 : Int32))] [(.ref a1), (.int (2 : Int32))])) rfl rfl (hb hby d13_11) _ ?_
            rw [len_of S92 M92]
            exact k
          obtain ⟨fs, hr, hrun, hended, hW, hsame⟩ := X0.leave (v := some (.int (1 : Int32))) (fun h => by rw [Bd.returns] at h; cases h)
          have KF := K93
          rw [hG] at KF
          refine ⟨_, _, KF _ ?_, hrun, hended, _, _, rfl, ?_, ⟨_, rfl⟩, hW, hsame.mono (by decide) (by decide)⟩
          · show Steps p.tables e below (s₁.setTop (mkF m 12 #[.val (.ref a1), .val (.ref a2), .val (.int (2 : Int32))] [(.int (2 : Int32)), (.int (2 : Int32))])) _
            refine XS.icmpYes X0.here hx rfl (pc0 := 12) (pc' := 32) rfl (hb hby d13_12) rfl (flt (by decide)).2.1 (by decide) (by decide) ?_
            show Steps p.tables e below (s₁.setTop (mkF m 32 #[.val (.ref a1), .val (.ref a2), .val (.int (2 : Int32))] [])) _
            refine XS.iconst X0.here hx rfl (hb hby d13_32) ?_
            show Steps p.tables e below (s₁.setTop (mkF m 33 #[.val (.ref a1), .val (.ref a2), .val (.int (2 : Int32))] [(.int (1 : Int32))])) _
            exact retN X0 hx (t := .boolean) Bd.returns (by simp) (hb hby d13_33) hr
          · show Q13 (2 : Int32) (2 : Int32) [(.int x0), (.int x1)] [(.int y0), (.int y1)] h0 n0 _ s₁.heap _
            rw [e0]
            exact ⟨_, rfl, N0, rfl, Or.inl ⟨rfl, rfl, by rw [hc80, hc90]⟩⟩
        · obtain ⟨fs, hr, hrun, hended, hW, hsame⟩ := X0.leave (v := some (.int (0 : Int32))) (fun h => by rw [Bd.returns] at h; cases h)
          have KF := K89
          rw [hG] at KF
          refine ⟨_, _, KF _ ?_, hrun, hended, _, _, rfl, ?_, ⟨_, rfl⟩, hW, hsame.mono (by decide) (by decide)⟩
          · show Steps p.tables e below (s₁.setTop (mkF m 21 #[.val (.ref a1), .val (.ref a2), .val (.int (1 : Int32))] [(.int y1), (.int x1)])) _
            refine XS.icmpNo X0.here hx rfl (hb hby d13_21) rfl (feq hc90).1 ?_
            show Steps p.tables e below (s₁.setTop (mkF m 24 #[.val (.ref a1), .val (.ref a2), .val (.int (1 : Int32))] [])) _
            refine XS.iconst X0.here hx rfl (hb hby d13_24) ?_
            show Steps p.tables e below (s₁.setTop (mkF m 25 #[.val (.ref a1), .val (.ref a2), .val (.int (1 : Int32))] [(.int (0 : Int32))])) _
            exact retN X0 hx (t := .boolean) Bd.returns (by simp) (hb hby d13_25) hr
          · show Q13 (2 : Int32) (2 : Int32) [(.int x0), (.int x1)] [(.int y0), (.int y1)] h0 n0 _ s₁.heap _
            rw [e0]
            exact ⟨_, rfl, N0, rfl, Or.inr ⟨rfl, fun q => hc90 (Value.int.inj (List.cons.inj (List.cons.inj q.2).2).1)⟩⟩
      · obtain ⟨fs, hr, hrun, hended, hW, hsame⟩ := X0.leave (v := some (.int (0 : Int32))) (fun h => by rw [Bd.returns] at h; cases h)
        have KF := K79
        rw [hG] at KF
        refine ⟨_, _, KF _ ?_, hrun, hended, _, _, rfl, ?_, ⟨_, rfl⟩, hW, hsame.mono (by decide) (by decide)⟩
        · show Steps p.tables e below (s₁.setTop (mkF m 21 #[.val (.ref a1), .val (.ref a2), .val (.int (0 : Int32))] [(.int y0), (.int x0)])) _
          refine XS.icmpNo X0.here hx rfl (hb hby d13_21) rfl (feq hc80).1 ?_
          show Steps p.tables e below (s₁.setTop (mkF m 24 #[.val (.ref a1), .val (.ref a2), .val (.int (0 : Int32))] [])) _
          refine XS.iconst X0.here hx rfl (hb hby d13_24) ?_
          show Steps p.tables e below (s₁.setTop (mkF m 25 #[.val (.ref a1), .val (.ref a2), .val (.int (0 : Int32))] [(.int (0 : Int32))])) _
          exact retN X0 hx (t := .boolean) Bd.returns (by simp) (hb hby d13_25) hr
        · show Q13 (2 : Int32) (2 : Int32) [(.int x0), (.int x1)] [(.int y0), (.int y1)] h0 n0 _ s₁.heap _
          rw [e0]
          exact ⟨_, rfl, N0, rfl, Or.inr ⟨rfl, fun q => hc80 (Value.int.inj (List.cons.inj q.2).1)⟩⟩
def Q12 (z1 z2 : Int32) (vs1 vs2 : List Value) (h0 : Heap) (n0 : Nat) (v : Option Value) (h : Heap) (L : List Loc) : Prop := ∃ r : Int32, v = some (.int r) ∧ Fr n0 L ∧ h = h0 ∧ own_says r (own_same z1 z2 vs1 vs2)
theorem d12_0 : decode jdk_42_method_66_code 0 = .ok (.aload_n 0, 1) := by decide +kernel
theorem d12_1 : decode jdk_42_method_66_code 1 = .ok (.aload_n 1, 1) := by decide +kernel
theorem d12_2 : decode jdk_42_method_66_code 2 = .ok (.if_acmp .ne 5, 3) := by decide +kernel
theorem d12_5 : decode jdk_42_method_66_code 5 = .ok (.iconst 1, 1) := by decide +kernel
theorem d12_6 : decode jdk_42_method_66_code 6 = .ok (.ireturn, 1) := by decide +kernel
theorem d12_7 : decode jdk_42_method_66_code 7 = .ok (.aload_n 1, 1) := by decide +kernel
theorem d12_8 : decode jdk_42_method_66_code 8 = .ok (.instanceof 10, 3) := by decide +kernel
theorem d12_11 : decode jdk_42_method_66_code 11 = .ok (.ifCond .eq 43, 3) := by decide +kernel
theorem d12_14 : decode jdk_42_method_66_code 14 = .ok (.aload_n 1, 1) := by decide +kernel
theorem d12_15 : decode jdk_42_method_66_code 15 = .ok (.checkcast 10, 3) := by decide +kernel
theorem d12_18 : decode jdk_42_method_66_code 18 = .ok (.astore_n 2, 1) := by decide +kernel
theorem d12_19 : decode jdk_42_method_66_code 19 = .ok (.getstatic 38, 3) := by decide +kernel
theorem d12_22 : decode jdk_42_method_66_code 22 = .ok (.ifCond .eq 14, 3) := by decide +kernel
theorem d12_25 : decode jdk_42_method_66_code 25 = .ok (.aload_n 0, 1) := by decide +kernel
theorem d12_26 : decode jdk_42_method_66_code 26 = .ok (.getfield 15, 3) := by decide +kernel
theorem d12_29 : decode jdk_42_method_66_code 29 = .ok (.aload_n 2, 1) := by decide +kernel
theorem d12_30 : decode jdk_42_method_66_code 30 = .ok (.getfield 15, 3) := by decide +kernel
theorem d12_33 : decode jdk_42_method_66_code 33 = .ok (.if_icmp .ne 21, 3) := by decide +kernel
theorem d12_36 : decode jdk_42_method_66_code 36 = .ok (.aload_n 0, 1) := by decide +kernel
theorem d12_37 : decode jdk_42_method_66_code 37 = .ok (.getfield 9, 3) := by decide +kernel
theorem d12_40 : decode jdk_42_method_66_code 40 = .ok (.aload_n 2, 1) := by decide +kernel
theorem d12_41 : decode jdk_42_method_66_code 41 = .ok (.getfield 9, 3) := by decide +kernel
theorem d12_44 : decode jdk_42_method_66_code 44 = .ok (.invokestatic 541, 3) := by decide +kernel
theorem d12_47 : decode jdk_42_method_66_code 47 = .ok (.ifCond .eq 7, 3) := by decide +kernel
theorem d12_50 : decode jdk_42_method_66_code 50 = .ok (.iconst 1, 1) := by decide +kernel
theorem d12_51 : decode jdk_42_method_66_code 51 = .ok (.goto 4, 3) := by decide +kernel
theorem d12_54 : decode jdk_42_method_66_code 54 = .ok (.iconst 0, 1) := by decide +kernel
theorem d12_55 : decode jdk_42_method_66_code 55 = .ok (.ireturn, 1) := by decide +kernel
theorem pd_4 : parseMethodDescriptor "([B[B)Z" = some ⟨[(.array .byte), (.array .byte)], some .boolean⟩ := by decide +kernel
theorem ef_rm12 (m : MethodId) (x0 : Addr) (x1 : Addr) : entryFrame m #[(.ref x0), (.ref x1)] 3 = mkF m 0 #[.val (.ref x0), .val (.ref x1), .unset] [] := by first | (simp [entryFrame, mkF, argsToLocals, Value.category]; done) | rfl
set_option maxRecDepth 65536 in
set_option maxHeartbeats 40000000 in
theorem rm12 (l : Launch) (Z : State) (a0 : Array Value) (hw : ∀ d ∈ tables_1, d.before a0 Z = true) (ws : List Jvm.Cond) (a1 a2 b1 b2 : Addr) (k1 k2 : ClassId) (z1 z2 : Int32) (vs1 vs2 : List Value) (cs : Int32) (h0 : Heap) (n0 : Nat) (Z0 : n0 ≤ h0.size) (S1 : own_S Z h0 a1 b1 k1 z1 vs1) (S2 : own_S Z h0 a2 b2 k2 z2 vs2) (f1 : own_len z1 vs1) (f2 : own_len z2 vs2) (heq : a1 = a2 → own_same z1 z2 vs1 vs2) (SC : Sta Z Z.heap "java/lang/String" "COMPACT_STRINGS" "Z" (.int cs)) (hcs : ¬ cs = 0) (O0 : Old Z n0 h0) :
    MetFree l (⟨"java/lang/String", "equals", "(Ljava/lang/Object;)Z"⟩ : MethodName) (head1 (Jvm.Cond.code (⟨"java/lang/String", "equals", "(Ljava/lang/Object;)Z"⟩ : MethodName) jdk_42_method_66_code 3 (some .boolean) :: ws) ({ frames := 1, cells := 0, slots := 0, locals := 14 } : Room)) (fun a U => a = #[(.ref a1), (.ref a2)] ∧ Z.Warmed39 U.vm ∧ U.heap = h0) (fun _ _ _ _ _ => True) (fun _ U o U' => ∃ v L, o = .returned v ∧ Q12 z1 z2 vs1 vs2 h0 n0 v U'.heap L ∧ FrameEnd U o U' L ({ frames := 1, cells := 0, slots := 0, locals := 14 } : Room).cells ({ frames := 1, cells := 0, slots := 0, locals := 14 } : Room).slots) := by
  refine MetFree.of_bodySF (plainFor_of_name pn_java_lang_String) hisR ?_
  intro p e s m args below meth c s₁ Bd hml0 hP hK
  obtain ⟨rfl, hZ, hh⟩ := hP
  have hx := Bd.exec
  have hby := Bd.bytes
  have hml : c.maxLocals = 3 := hml0
  have hown : s.vm.findClass "java/lang/String" = some m.cls := findClass_of_methodNamed Bd.named
  have hnm := (name_of_methodNamed Bd.named Bd.method).1
  have X0 : Stand p l e ({ frames := 1, cells := 0, slots := 0, locals := 14 } : Room) s m #[(.ref a1), (.ref a2)] below meth c s₁ [] 0 0 := Stand.of_body Bd
  have e0 : s₁.heap = h0 := by rw [← hh, Bd.state]; rfl
  have N0 := Fr.nil n0
  have KP0 : Keep h0 h0 [] := Keep.refl h0 _
  obtain ⟨G, hG⟩ : ∃ G : State, G = s₁.setTop (entryFrame m #[(.ref a1), (.ref a2)] 3) := ⟨_, rfl⟩
  have pre0 : ∀ t, Steps p.tables e below (s₁.setTop (mkF m 0 #[.val (.ref a1), .val (.ref a2), .unset] [])) t → Steps p.tables e below G t := fun t k => hG ▸ castTop (ef_rm12 m a1 a2) k
  obtain ⟨E1, Fv1, Fc1, V1⟩ := S1
  obtain ⟨E2, Fv2, Fc2, V2⟩ := S2
  have K1 : ∀ t, Steps p.tables e below (s₁.setTop (mkF m 2 #[.val (.ref a1), .val (.ref a2), .unset] [(.ref a2), (.ref a1)])) t → Steps p.tables e below G t := by
    intro t k
    refine pre0 t ?_
    show Steps p.tables e below (s₁.setTop (mkF m 0 #[.val (.ref a1), .val (.ref a2), .unset] [])) _
    refine XS.aloadN X0.here hx rfl (hb hby d12_0) rfl rfl ?_
    show Steps p.tables e below (s₁.setTop (mkF m 1 #[.val (.ref a1), .val (.ref a2), .unset] [(.ref a1)])) _
    refine XS.aloadN X0.here hx rfl (hb hby d12_1) rfl rfl ?_
    show Steps p.tables e below (s₁.setTop (mkF m 2 #[.val (.ref a1), .val (.ref a2), .unset] [(.ref a2), (.ref a1)])) _
    exact k
  by_cases hc2 : a1 = a2
  · obtain ⟨fs, hr, hrun, hended, hW, hsame⟩ := X0.leave (v := some (.int (1 : Int32))) (fun h => by rw [Bd.returns] at h; cases h)
    have KF := K1
    rw [hG] at KF
    refine ⟨_, _, KF _ ?_, hrun, hended, _, _, rfl, ?_, ⟨_, rfl⟩, hW, hsame.mono (by decide) (by decide)⟩
    · show Steps p.tables e below (s₁.setTop (mkF m 2 #[.val (.ref a1), .val (.ref a2), .unset] [(.ref a2), (.ref a1)])) _
      refine Jvm.RoadKit.acmp (g := (mkF m 2 #[.val (.ref a1), .val (.ref a2), .unset] [(.ref a2), (.ref a1)])) X0 hx rfl rfl rfl (pc0 := 2) (pc' := 5) (same := true) rfl (hb hby d12_2) rfl (decide_eq_true (congrArg Value.ref hc2)) (by decide) (by decide) ?_
      show Steps p.tables e below (s₁.setTop (mkF m 5 #[.val (.ref a1), .val (.ref a2), .unset] [])) _
      refine XS.iconst X0.here hx rfl (hb hby d12_5) ?_
      show Steps p.tables e below (s₁.setTop (mkF m 6 #[.val (.ref a1), .val (.ref a2), .unset] [(.int (1 : Int32))])) _
      exact retN X0 hx (t := .boolean) Bd.returns (by simp) (hb hby d12_6) hr
    · show Q12 z1 z2 vs1 vs2 h0 n0 _ s₁.heap _
      rw [e0]
      exact ⟨_, rfl, N0, rfl, Or.inl ⟨rfl, heq hc2⟩⟩
  · have K3 : ∀ t, Steps p.tables e below (s₁.setTop (mkF m 8 #[.val (.ref a1), .val (.ref a2), .unset] [(.ref a2)])) t → Steps p.tables e below G t := by
      intro t k
      refine K1 t ?_
      show Steps p.tables e below (s₁.setTop (mkF m 2 #[.val (.ref a1), .val (.ref a2), .unset] [(.ref a2), (.ref a1)])) _
      refine Jvm.RoadKit.acmp (g := (mkF m 2 #[.val (.ref a1), .val (.ref a2), .unset] [(.ref a2), (.ref a1)])) X0 hx rfl rfl rfl (pc0 := 2) (pc' := 7) (same := false) rfl (hb hby d12_2) rfl (decide_eq_false fun q => hc2 (Value.ref.inj q)) (by decide) (by decide) ?_
      show Steps p.tables e below (s₁.setTop (mkF m 7 #[.val (.ref a1), .val (.ref a2), .unset] [])) _
      refine XS.aloadN X0.here hx rfl (hb hby d12_7) rfl rfl ?_
      show Steps p.tables e below (s₁.setTop (mkF m 8 #[.val (.ref a1), .val (.ref a2), .unset] [(.ref a2)])) _
      exact k
    obtain ⟨T4, X4, e4, st4⟩ := instY X0 hx hZ hown (hw _ (List.mem_of_getElem? (i := 68) rfl)) e0 (Ins.self E2) (g := (mkF m 8 #[.val (.ref a1), .val (.ref a2), .unset] [(.ref a2)])) rfl rfl (hb hby d12_8)
    have K5 : ∀ t, Steps p.tables e below (T4.setTop (mkF m 11 #[.val (.ref a1), .val (.ref a2), .unset] [(.int (1 : Int32))])) t → Steps p.tables e below G t := fun t k => K3 t (st4 t k)
    have K6 : ∀ t, Steps p.tables e below (T4.setTop (mkF m 15 #[.val (.ref a1), .val (.ref a2), .unset] [(.ref a2)])) t → Steps p.tables e below G t := by
      intro t k
      refine K5 t ?_
      show Steps p.tables e below (T4.setTop (mkF m 11 #[.val (.ref a1), .val (.ref a2), .unset] [(.int (1 : Int32))])) _
      refine XS.ifNo X4.here hx rfl (hb hby d12_11) rfl ((if0 _ _).trans (feq (by decide)).1) ?_
      show Steps p.tables e below (T4.setTop (mkF m 14 #[.val (.ref a1), .val (.ref a2), .unset] [])) _
      refine XS.aloadN X4.here hx rfl (hb hby d12_14) rfl rfl ?_
      show Steps p.tables e below (T4.setTop (mkF m 15 #[.val (.ref a1), .val (.ref a2), .unset] [(.ref a2)])) _
      exact k
    obtain ⟨T7, X7, e7, st7⟩ := castY X4 hx hZ hown (hw _ (List.mem_of_getElem? (i := 68) rfl)) e4 (Ins.self E2) (g := (mkF m 15 #[.val (.ref a1), .val (.ref a2), .unset] [(.ref a2)])) rfl rfl (hb hby d12_15)
    have K8 : ∀ t, Steps p.tables e below (T7.setTop (mkF m 18 #[.val (.ref a1), .val (.ref a2), .unset] [(.ref a2)])) t → Steps p.tables e below G t := fun t k => K6 t (st7 t k)
    have K9 : ∀ t, Steps p.tables e below (T7.setTop (mkF m 19 #[.val (.ref a1), .val (.ref a2), .val (.ref a2)] [])) t → Steps p.tables e below G t := by
      intro t k
      refine K8 t ?_
      show Steps p.tables e below (T7.setTop (mkF m 18 #[.val (.ref a1), .val (.ref a2), .unset] [(.ref a2)])) _
      refine XS.astoreN X7.here hx rfl (hb hby d12_18) rfl rfl (l' := #[.val (.ref a1), .val (.ref a2), .val (.ref a2)]) rfl ?_
      show Steps p.tables e below (T7.setTop (mkF m 19 #[.val (.ref a1), .val (.ref a2), .val (.ref a2)] [])) _
      exact k
    obtain ⟨T10, X10, e10, st10⟩ := getS2 X7 hx hZ hown (host := "") (Or.inl (hw _ (List.mem_of_getElem? (i := 21) rfl))) Via.refl e7 (Sta.ext O0.2 SC) (g := (mkF m 19 #[.val (.ref a1), .val (.ref a2), .val (.ref a2)] [])) rfl (hb hby d12_19)
    have K11 : ∀ t, Steps p.tables e below (T10.setTop (mkF m 22 #[.val (.ref a1), .val (.ref a2), .val (.ref a2)] [(.int cs)])) t → Steps p.tables e below G t := fun t k => K9 t (st10 t k)
    have K12 : ∀ t, Steps p.tables e below (T10.setTop (mkF m 26 #[.val (.ref a1), .val (.ref a2), .val (.ref a2)] [(.ref a1)])) t → Steps p.tables e below G t := by
      intro t k
      refine K11 t ?_
      show Steps p.tables e below (T10.setTop (mkF m 22 #[.val (.ref a1), .val (.ref a2), .val (.ref a2)] [(.int cs)])) _
      refine XS.ifNo X10.here hx rfl (hb hby d12_22) rfl ((if0 _ _).trans (feq hcs).1) ?_
      show Steps p.tables e below (T10.setTop (mkF m 25 #[.val (.ref a1), .val (.ref a2), .val (.ref a2)] [])) _
      refine XS.aloadN X10.here hx rfl (hb hby d12_25) rfl rfl ?_
      show Steps p.tables e below (T10.setTop (mkF m 26 #[.val (.ref a1), .val (.ref a2), .val (.ref a2)] [(.ref a1)])) _
      exact k
    obtain ⟨T13, X13, e13, st13⟩ := getF X10 hx hZ hown (host := "") (Or.inl (hw _ (List.mem_of_getElem? (i := 33) rfl))) Via.refl e10 Fc1 (g := (mkF m 26 #[.val (.ref a1), .val (.ref a2), .val (.ref a2)] [(.ref a1)])) rfl rfl (hb hby d12_26)
    have K14 : ∀ t, Steps p.tables e below (T13.setTop (mkF m 29 #[.val (.ref a1), .val (.ref a2), .val (.ref a2)] [(.int (0 : Int32))])) t → Steps p.tables e below G t := fun t k => K12 t (st13 t k)
    have K15 : ∀ t, Steps p.tables e below (T13.setTop (mkF m 30 #[.val (.ref a1), .val (.ref a2), .val (.ref a2)] [(.ref a2), (.int (0 : Int32))])) t → Steps p.tables e below G t := by
      intro t k
      refine K14 t ?_
      show Steps p.tables e below (T13.setTop (mkF m 29 #[.val (.ref a1), .val (.ref a2), .val (.ref a2)] [(.int (0 : Int32))])) _
      refine XS.aloadN X13.here hx rfl (hb hby d12_29) rfl rfl ?_
      show Steps p.tables e below (T13.setTop (mkF m 30 #[.val (.ref a1), .val (.ref a2), .val (.ref a2)] [(.ref a2), (.int (0 : Int32))])) _
      exact k
    obtain ⟨T16, X16, e16, st16⟩ := getF X13 hx hZ hown (host := "") (Or.inl (hw _ (List.mem_of_getElem? (i := 33) rfl))) Via.refl e13 Fc2 (g := (mkF m 30 #[.val (.ref a1), .val (.ref a2), .val (.ref a2)] [(.ref a2), (.int (0 : Int32))])) rfl rfl (hb hby d12_30)
    have K17 : ∀ t, Steps p.tables e below (T16.setTop (mkF m 33 #[.val (.ref a1), .val (.ref a2), .val (.ref a2)] [(.int (0 : Int32)), (.int (0 : Int32))])) t → Steps p.tables e below G t := fun t k => K15 t (st16 t k)
    have K18 : ∀ t, Steps p.tables e below (T16.setTop (mkF m 37 #[.val (.ref a1), .val (.ref a2), .val (.ref a2)] [(.ref a1)])) t → Steps p.tables e below G t := by
      intro t k
      refine K17 t ?_
      show Steps p.tables e below (T16.setTop (mkF m 33 #[.val (.ref a1), .val (.ref a2), .val (.ref a2)] [(.int (0 : Int32)), (.int (0 : Int32))])) _
      refine XS.icmpNo X16.here hx rfl (hb hby d12_33) rfl (teq (by decide)).2 ?_
      show Steps p.tables e below (T16.setTop (mkF m 36 #[.val (.ref a1), .val (.ref a2), .val (.ref a2)] [])) _
      refine XS.aloadN X16.here hx rfl (hb hby d12_36) rfl rfl ?_
      show Steps p.tables e below (T16.setTop (mkF m 37 #[.val (.ref a1), .val (.ref a2), .val (.ref a2)] [(.ref a1)])) _
      exact k
    obtain ⟨T19, X19, e19, st19⟩ := getF X16 hx hZ hown (host := "") (Or.inl (hw _ (List.mem_of_getElem? (i := 35) rfl))) Via.refl e16 Fv1 (g := (mkF m 37 #[.val (.ref a1), .val (.ref a2), .val (.ref a2)] [(.ref a1)])) rfl rfl (hb hby d12_37)
    have K20 : ∀ t, Steps p.tables e below (T19.setTop (mkF m 40 #[.val (.ref a1), .val (.ref a2), .val (.ref a2)] [(.ref b1)])) t → Steps p.tables e below G t := fun t k => K18 t (st19 t k)
    have K21 : ∀ t, Steps p.tables e below (T19.setTop (mkF m 41 #[.val (.ref a1), .val (.ref a2), .val (.ref a2)] [(.ref a2), (.ref b1)])) t → Steps p.tables e below G t := by
      intro t k
      refine K20 t ?_
      show Steps p.tables e below (T19.setTop (mkF m 40 #[.val (.ref a1), .val (.ref a2), .val (.ref a2)] [(.ref b1)])) _
      refine XS.aloadN X19.here hx rfl (hb hby d12_40) rfl rfl ?_
      show Steps p.tables e below (T19.setTop (mkF m 41 #[.val (.ref a1), .val (.ref a2), .val (.ref a2)] [(.ref a2), (.ref b1)])) _
      exact k
    obtain ⟨T22, X22, e22, st22⟩ := getF X19 hx hZ hown (host := "") (Or.inl (hw _ (List.mem_of_getElem? (i := 35) rfl))) Via.refl e19 Fv2 (g := (mkF m 41 #[.val (.ref a1), .val (.ref a2), .val (.ref a2)] [(.ref a2), (.ref b1)])) rfl rfl (hb hby d12_41)
    have K23 : ∀ t, Steps p.tables e below (T22.setTop (mkF m 44 #[.val (.ref a1), .val (.ref a2), .val (.ref a2)] [(.ref b2), (.ref b1)])) t → Steps p.tables e below G t := fun t k => K21 t (st22 t k)
    obtain ⟨_, _, ⟨T24, L24, kk24, nn24⟩, -, X24, ⟨Lc24, hQ24, lq24, yq24, zq24⟩, st24⟩ := Jvm.LawKit.callS X22 hx (y := (⟨"java/lang/StringLatin1", "equals", "([B[B)Z"⟩ : MethodName)) hown (mvT hZ (hw _ (List.mem_of_getElem? (i := 69) rfl))) (mvT hZ (hw _ (List.mem_of_getElem? (i := 70) rfl))) (mvT hZ (hw _ (List.mem_of_getElem? (i := 71) rfl))) (mvT hZ (hw _ (List.mem_of_getElem? (i := 72) rfl))) (by decide) (backOf (W := 0) (rm13 l Z a0 hw [] b1 b2 k1 k2 z1 z2 vs1 vs2 h0 n0 Z0 V1 V2 f1 f2) hZ (hw _ (List.mem_of_getElem? (i := 72) rfl)) (hw _ (List.mem_of_getElem? (i := 71) rfl)) (by decide) (by decide)) (g := (mkF m 44 #[.val (.ref a1), .val (.ref a2), .val (.ref a2)] [(.ref b2), (.ref b1)])) rfl (by rw [hml]; rfl) (argsL := [(.ref b1), (.ref b2)]) (rest := []) (lenOf pd_4 rfl) rfl (by show 2 * 0 + _ ≤ _; exact Nat.le_of_eq rfl) (hb hby d12_44) (fun _ _ => ⟨rfl, e22, (by decide : 0 + 0 ≤ _), (by decide : 0 + 0 ≤ _)⟩)
    dsimp only [Pt.U, Pt.locs, Pt.cells, Pt.slots] at X24 lq24 yq24 zq24 st24 hQ24
    subst lq24 yq24 zq24
    obtain ⟨r24, rfl, Nq24, e24, hr24⟩ := hQ24
    have N25 := Fr.app N0 Nq24
    have K26 : ∀ t, Steps p.tables e below (T24.setTop (mkF m 47 #[.val (.ref a1), .val (.ref a2), .val (.ref a2)] [(.int r24)])) t → Steps p.tables e below G t := fun t k => K23 t (st24 _ k)
    by_cases hc27 : r24 = (0 : Int32)
    · obtain ⟨fs, hr, hrun, hended, hW, hsame⟩ := X24.leave (v := some (.int (0 : Int32))) (fun h => by rw [Bd.returns] at h; cases h)
      have KF := K26
      rw [hG] at KF
      refine ⟨_, _, KF _ ?_, hrun, hended, _, _, rfl, ?_, ⟨_, rfl⟩, hW, hsame.mono (by decide) (by decide)⟩
      · show Steps p.tables e below (T24.setTop (mkF m 47 #[.val (.ref a1), .val (.ref a2), .val (.ref a2)] [(.int r24)])) _
        refine XS.ifYes X24.here hx rfl (pc0 := 47) (pc' := 54) rfl (hb hby d12_47) rfl ((if0 _ _).trans (teq hc27).1) (by decide) (by decide) ?_
        show Steps p.tables e below (T24.setTop (mkF m 54 #[.val (.ref a1), .val (.ref a2), .val (.ref a2)] [])) _
        refine XS.iconst X24.here hx rfl (hb hby d12_54) ?_
        show Steps p.tables e below (T24.setTop (mkF m 55 #[.val (.ref a1), .val (.ref a2), .val (.ref a2)] [(.int (0 : Int32))])) _
        exact retN X24 hx (t := .boolean) Bd.returns (by simp) (hb hby d12_55) hr
      · show Q12 z1 z2 vs1 vs2 h0 n0 _ T24.heap _
        rw [e24]
        refine ⟨_, rfl, N25, rfl, Or.inr ⟨rfl, fun q => ?_⟩⟩
        rcases hr24 with ⟨z, -⟩ | ⟨-, z⟩
        · rw [z] at hc27; exact absurd hc27 (by decide)
        · exact z q
    · obtain ⟨fs, hr, hrun, hended, hW, hsame⟩ := X24.leave (v := some (.int (1 : Int32))) (fun h => by rw [Bd.returns] at h; cases h)
      have KF := K26
      rw [hG] at KF
      refine ⟨_, _, KF _ ?_, hrun, hended, _, _, rfl, ?_, ⟨_, rfl⟩, hW, hsame.mono (by decide) (by decide)⟩
      · show Steps p.tables e below (T24.setTop (mkF m 47 #[.val (.ref a1), .val (.ref a2), .val (.ref a2)] [(.int r24)])) _
        refine XS.ifNo X24.here hx rfl (hb hby d12_47) rfl ((if0 _ _).trans (feq hc27).1) ?_
        show Steps p.tables e below (T24.setTop (mkF m 50 #[.val (.ref a1), .val (.ref a2), .val (.ref a2)] [])) _
        refine XS.iconst X24.here hx rfl (hb hby d12_50) ?_
        show Steps p.tables e below (T24.setTop (mkF m 51 #[.val (.ref a1), .val (.ref a2), .val (.ref a2)] [(.int (1 : Int32))])) _
        refine XS.goto X24.here hx rfl (pc0 := 51) (pc' := 55) rfl (hb hby d12_51) (by decide) (by decide) ?_
        show Steps p.tables e below (T24.setTop (mkF m 55 #[.val (.ref a1), .val (.ref a2), .val (.ref a2)] [(.int (1 : Int32))])) _
        exact retN X24 hx (t := .boolean) Bd.returns (by simp) (hb hby d12_55) hr
      · show Q12 z1 z2 vs1 vs2 h0 n0 _ T24.heap _
        rw [e24]
        refine ⟨_, rfl, N25, rfl, Or.inl ⟨rfl, ?_⟩⟩
        rcases hr24 with ⟨-, z⟩ | ⟨z, -⟩
        · exact z
        · exact absurd z hc27
def Q2 (Z : State) (p1 p2 p3 : Int32) (h0 : Heap) (n0 : Nat) (v : Option Value) (h : Heap) (L : List Loc) : Prop := ∃ (s b : Addr) (k : ClassId) (z : Int32) (vs : List Value), v = some (.ref s) ∧ Fr n0 L ∧ Keep h0 h [] ∧ h0.size ≤ s ∧ own_S Z h s b k z vs ∧ own_form p3 (p1.toUInt32.toUInt16.toUInt32.toInt32) (p2.toUInt32.toUInt16.toUInt32.toInt32) z vs
theorem d2_0 : decode method_3_code 0 = .ok (.iload_n 2, 1) := by decide +kernel
theorem d2_1 : decode method_3_code 1 = .ok (.ifCond .ne 14, 3) := by decide +kernel
theorem d2_4 : decode method_3_code 4 = .ok (.new 7, 3) := by decide +kernel
theorem d2_7 : decode method_3_code 7 = .ok (.dup, 1) := by decide +kernel
theorem d2_8 : decode method_3_code 8 = .ok (.iconst 0, 1) := by decide +kernel
theorem d2_9 : decode method_3_code 9 = .ok (.newarray .char, 2) := by decide +kernel
theorem d2_11 : decode method_3_code 11 = .ok (.invokespecial 9, 3) := by decide +kernel
theorem d2_14 : decode method_3_code 14 = .ok (.areturn, 1) := by decide +kernel
theorem d2_15 : decode method_3_code 15 = .ok (.iload_n 2, 1) := by decide +kernel
theorem d2_16 : decode method_3_code 16 = .ok (.iconst 1, 1) := by decide +kernel
theorem d2_17 : decode method_3_code 17 = .ok (.if_icmp .ne 19, 3) := by decide +kernel
theorem d2_20 : decode method_3_code 20 = .ok (.new 7, 3) := by decide +kernel
theorem d2_23 : decode method_3_code 23 = .ok (.dup, 1) := by decide +kernel
theorem d2_24 : decode method_3_code 24 = .ok (.iconst 1, 1) := by decide +kernel
theorem d2_25 : decode method_3_code 25 = .ok (.newarray .char, 2) := by decide +kernel
theorem d2_27 : decode method_3_code 27 = .ok (.dup, 1) := by decide +kernel
theorem d2_28 : decode method_3_code 28 = .ok (.iconst 0, 1) := by decide +kernel
theorem d2_29 : decode method_3_code 29 = .ok (.iload_n 0, 1) := by decide +kernel
theorem d2_30 : decode method_3_code 30 = .ok (.i2c, 1) := by decide +kernel
theorem d2_31 : decode method_3_code 31 = .ok (.castore, 1) := by decide +kernel
theorem d2_32 : decode method_3_code 32 = .ok (.invokespecial 9, 3) := by decide +kernel
theorem d2_35 : decode method_3_code 35 = .ok (.areturn, 1) := by decide +kernel
theorem d2_36 : decode method_3_code 36 = .ok (.new 7, 3) := by decide +kernel
theorem d2_39 : decode method_3_code 39 = .ok (.dup, 1) := by decide +kernel
theorem d2_40 : decode method_3_code 40 = .ok (.iconst 2, 1) := by decide +kernel
theorem d2_41 : decode method_3_code 41 = .ok (.newarray .char, 2) := by decide +kernel
theorem d2_43 : decode method_3_code 43 = .ok (.dup, 1) := by decide +kernel
theorem d2_44 : decode method_3_code 44 = .ok (.iconst 0, 1) := by decide +kernel
theorem d2_45 : decode method_3_code 45 = .ok (.iload_n 0, 1) := by decide +kernel
theorem d2_46 : decode method_3_code 46 = .ok (.i2c, 1) := by decide +kernel
theorem d2_47 : decode method_3_code 47 = .ok (.castore, 1) := by decide +kernel
theorem d2_48 : decode method_3_code 48 = .ok (.dup, 1) := by decide +kernel
theorem d2_49 : decode method_3_code 49 = .ok (.iconst 1, 1) := by decide +kernel
theorem d2_50 : decode method_3_code 50 = .ok (.iload_n 1, 1) := by decide +kernel
theorem d2_51 : decode method_3_code 51 = .ok (.i2c, 1) := by decide +kernel
theorem d2_52 : decode method_3_code 52 = .ok (.castore, 1) := by decide +kernel
theorem d2_53 : decode method_3_code 53 = .ok (.invokespecial 9, 3) := by decide +kernel
theorem d2_56 : decode method_3_code 56 = .ok (.areturn, 1) := by decide +kernel
theorem pn_com_example_conq_conq_model_GroupPartitionEqualsPinLaw : plainName "com/example/conq/conq/model/GroupPartitionEqualsPinLaw" = true := by first | (simp [plainName, overriddenIn]; done) | decide +kernel
theorem pd_5 : parseMethodDescriptor "([C)V" = some ⟨[(.array .char)], none⟩ := by decide +kernel
theorem ef_rm2 (m : MethodId) (x0 : Int32) (x1 : Int32) (x2 : Int32) : entryFrame m #[(.int x0), (.int x1), (.int x2)] 3 = mkF m 0 #[.val (.int x0), .val (.int x1), .val (.int x2)] [] := by first | (simp [entryFrame, mkF, argsToLocals, Value.category]; done) | rfl
set_option maxRecDepth 65536 in
set_option maxHeartbeats 40000000 in
theorem rm2 (l : Launch) (Z : State) (a0 : Array Value) (hw : ∀ d ∈ tables_1, d.before a0 Z = true) (ws : List Jvm.Cond) (p1 p2 p3 cs : Int32) (h0 : Heap) (n0 : Nat) (Z0 : n0 ≤ h0.size) (hEL : EW Z a0 own_EL) (SC : Sta Z Z.heap "java/lang/String" "COMPACT_STRINGS" "Z" (.int cs)) (hcs : ¬ cs = 0) (O0 : Old Z n0 h0) (hq0 : ¬ (255 : Int32) < nar .char (p1.toUInt32.toUInt16.toUInt32.toInt32)) (hq1 : ¬ (255 : Int32) < nar .char (p2.toUInt32.toUInt16.toUInt32.toInt32)) :
    MetFree l (⟨"com/example/conq/conq/model/GroupPartitionEqualsPinLaw", "mk", "(III)Ljava/lang/String;"⟩ : MethodName) (head1 (Jvm.Cond.code (⟨"com/example/conq/conq/model/GroupPartitionEqualsPinLaw", "mk", "(III)Ljava/lang/String;"⟩ : MethodName) method_3_code 3 (some (.object "java/lang/String")) :: ws) ({ frames := 4, cells := 6, slots := 12, locals := 66 } : Room)) (fun a U => a = #[(.int p1), (.int p2), (.int p3)] ∧ Z.Warmed39 U.vm ∧ U.heap = h0 ∧ CHv Z own_EL U.vm h0) (fun _ _ _ _ _ => True) (fun _ U o U' => ∃ v L, o = .returned v ∧ Q2 Z p1 p2 p3 h0 n0 v U'.heap L ∧ CHr Z own_EL U.vm U.heap U'.vm U'.heap ∧ ReturnedEndW U o U' L ({ frames := 4, cells := 6, slots := 12, locals := 66 } : Room).cells ({ frames := 4, cells := 6, slots := 12, locals := 66 } : Room).slots) := by
  refine MetFree.of_bodySF (plainFor_of_name pn_com_example_conq_conq_model_GroupPartitionEqualsPinLaw) hisR ?_
  intro p e s m args below meth c s₁ Bd hml0 hP hK
  obtain ⟨rfl, hZ, hh, hCH⟩ := hP
  have hx := Bd.exec
  have hby := Bd.bytes
  have hml : c.maxLocals = 3 := hml0
  have hown : s.vm.findClass "com/example/conq/conq/model/GroupPartitionEqualsPinLaw" = some m.cls := findClass_of_methodNamed Bd.named
  have hnm := (name_of_methodNamed Bd.named Bd.method).1
  have X0 : Stand p l e ({ frames := 4, cells := 6, slots := 12, locals := 66 } : Room) (s.setVm s.vm) m #[(.int p1), (.int p2), (.int p3)] below meth c s₁ [] 0 0 := Stand.of_body Bd
  have e0 : s₁.heap = h0 := by rw [← hh, Bd.state]; rfl
  have N0 := Fr.nil n0
  have KP0 : Keep h0 h0 [] := Keep.refl h0 _
  obtain ⟨G, hG⟩ : ∃ G : State, G = s₁.setTop (entryFrame m #[(.int p1), (.int p2), (.int p3)] 3) := ⟨_, rfl⟩
  have pre0 : ∀ t, Steps p.tables e below (s₁.setTop (mkF m 0 #[.val (.int p1), .val (.int p2), .val (.int p3)] [])) t → Steps p.tables e below G t := fun t k => hG ▸ castTop (ef_rm2 m p1 p2 p3) k
  have hS0 : s.Since s.vm h0.size := (State.WarmedH.refl s).since _
  have kS0 : h0.size ≤ h0.size := Nat.le_refl _
  have CH0 : CHr Z own_EL s.vm h0 s.vm h0 := CHr.refl hCH
  have K1 : ∀ t, Steps p.tables e below (s₁.setTop (mkF m 1 #[.val (.int p1), .val (.int p2), .val (.int p3)] [(.int p3)])) t → Steps p.tables e below G t := by
    intro t k
    refine pre0 t ?_
    show Steps p.tables e below (s₁.setTop (mkF m 0 #[.val (.int p1), .val (.int p2), .val (.int p3)] [])) _
    refine XS.iloadN X0.here hx rfl (hb hby d2_0) rfl ?_
    show Steps p.tables e below (s₁.setTop (mkF m 1 #[.val (.int p1), .val (.int p2), .val (.int p3)] [(.int p3)])) _
    exact k
  by_cases hc2 : p3 = (0 : Int32)
  · have K3 : ∀ t, Steps p.tables e below (s₁.setTop (mkF m 4 #[.val (.int p1), .val (.int p2), .val (.int p3)] [])) t → Steps p.tables e below G t := by
      intro t k
      refine K1 t ?_
      show Steps p.tables e below (s₁.setTop (mkF m 1 #[.val (.int p1), .val (.int p2), .val (.int p3)] [(.int p3)])) _
      refine XS.ifNo X0.here hx rfl (hb hby d2_1) rfl ((if0 _ _).trans (teq hc2).2) ?_
      show Steps p.tables e below (s₁.setTop (mkF m 4 #[.val (.int p1), .val (.int p2), .val (.int p3)] [])) _
      exact k
    obtain ⟨T4, h4, X4, e4, E4, A4, D4, -, st4⟩ := newO X0 hx hZ hown (hw _ (List.mem_of_getElem? (i := 7) rfl)) (hw _ (List.mem_of_getElem? (i := 8) rfl)) (hw _ (List.mem_of_getElem? (i := 9) rfl)) e0 (g := (mkF m 4 #[.val (.int p1), .val (.int p2), .val (.int p3)] [])) rfl (hb hby d2_4) (by decide) (by decide)
    obtain ⟨b4, g4⟩ : ∃ z, z = h0.size := ⟨_, rfl⟩
    rw [← g4] at A4 D4 st4
    have g_b4 : n0 ≤ b4 := Nat.le_trans Z0 (Nat.le_of_eq g4.symm)
    have sz_b4 : h0.size ≤ b4 := Nat.le_trans KP0.1 (Nat.le_of_eq g4.symm)
    have U5 : Safe Z own_EL s.vm h4 b4 := Safe.ext E4 CH0.1 (Safe.new (Nat.le_of_eq g4.symm))
    have CH6 : CHr Z own_EL s.vm h0 s.vm h4 := CH0.trans (CHr.ext E4 CH0.1)
    have kS7 := Nat.le_trans kS0 E4.1
    have f8 := O0.ext E4
    have Z9 : n0 ≤ h4.size := Nat.le_trans Z0 E4.1
    have KP10 : Keep h0 h4 [] := KP0.ext E4
    have K11 : ∀ t, Steps p.tables e below (T4.setTop (mkF m 7 #[.val (.int p1), .val (.int p2), .val (.int p3)] [(.ref b4)])) t → Steps p.tables e below G t := fun t k => K3 t (st4 t k)
    have f12 : Fld Z h4 b4 "java/lang/String" "coder" "B" (.int (0 : Int32)) := D4 (Or.inr (hw _ (List.mem_of_getElem? (i := 34) rfl))) (ty := .byte) (by decide)
    have f13 : Fld Z h4 b4 "java/lang/String" "value" "[B" .null := D4 (Or.inr (hw _ (List.mem_of_getElem? (i := 36) rfl))) (ty := (.array .byte)) (by decide)
    have K14 : ∀ t, Steps p.tables e below (T4.setTop (mkF m 9 #[.val (.int p1), .val (.int p2), .val (.int p3)] [(.int (0 : Int32)), (.ref b4), (.ref b4)])) t → Steps p.tables e below G t := by
      intro t k
      refine K11 t ?_
      show Steps p.tables e below (T4.setTop (mkF m 7 #[.val (.int p1), .val (.int p2), .val (.int p3)] [(.ref b4)])) _
      refine XS.dup X4.here hx rfl (hb hby d2_7) rfl rfl ?_
      show Steps p.tables e below (T4.setTop (mkF m 8 #[.val (.int p1), .val (.int p2), .val (.int p3)] [(.ref b4), (.ref b4)])) _
      refine XS.iconst X4.here hx rfl (hb hby d2_8) ?_
      show Steps p.tables e below (T4.setTop (mkF m 9 #[.val (.int p1), .val (.int p2), .val (.int p3)] [(.int (0 : Int32)), (.ref b4), (.ref b4)])) _
      exact k
    obtain ⟨T15, h15, kn15, X15, e15, E15, A15, st15⟩ := newP X4 hx hZ (hw _ (List.mem_of_getElem? (i := 10) rfl)) e4 (g := (mkF m 9 #[.val (.int p1), .val (.int p2), .val (.int p3)] [(.int (0 : Int32)), (.ref b4), (.ref b4)])) rfl (hb hby d2_9) rfl (by decide) (cap := 0) (by decide) (by decide) (by decide) (by decide)
    obtain ⟨b15, g15⟩ : ∃ z, z = h4.size := ⟨_, rfl⟩
    rw [← g15] at A15 st15
    have ne_b4_b15 : b4 ≠ b15 := Nat.ne_of_lt (Nat.lt_of_lt_of_le A4.lt (Nat.le_of_eq g15.symm))
    have g_b15 : n0 ≤ b15 := Nat.le_trans Z9 (Nat.le_of_eq g15.symm)
    have sz_b15 : h0.size ≤ b15 := Nat.le_trans KP10.1 (Nat.le_of_eq g15.symm)
    have CH16 : CHr Z own_EL s.vm h0 s.vm h15 := CH6.trans (CHr.ext E15 CH6.1)
    have kS17 := Nat.le_trans kS7 E15.1
    have f18 := f8.ext E15
    have f19 := Safe.ext E15 CH6.1 U5
    have f20 := A4.ext E15
    have f21 := f12.ext E15
    have f22 := f13.ext E15
    have Z23 : n0 ≤ h15.size := Nat.le_trans Z9 E15.1
    have KP24 : Keep h0 h15 [] := KP10.ext E15
    have K25 : ∀ t, Steps p.tables e below (T15.setTop (mkF m 11 #[.val (.int p1), .val (.int p2), .val (.int p3)] [(.ref b15), (.ref b4), (.ref b4)])) t → Steps p.tables e below G t := fun t k => K14 t (st15 t k)
    have V15 : Arv Z h15 b15 kn15 .char (0 : Int32) [] (.int (0 : Int32)) := Arv.new A15 (by decide)
    obtain ⟨_, _, ⟨T26, L26, kk26, nn26⟩, -, Xq26, hSq26, gq26, ⟨Lc26, hQ26, lq26, yq26, zq26, CHq26⟩, st26⟩ := X15.specialBackS hx (y := (⟨"java/lang/String", "<init>", "([C)V"⟩ : MethodName)) rfl hown (mvT hZ (hw _ (List.mem_of_getElem? (i := 11) rfl))) (mvT hZ (hw _ (List.mem_of_getElem? (i := 12) rfl))) (mvT hZ (hw _ (List.mem_of_getElem? (i := 13) rfl))) (by decide) (backOfSH (s := s) (vm0 := s.vm) (W := 1) (rm3_0 l Z a0 hw [] b4 b15 kn15 h15 n0 Z23 hEL f20 f22 f21 V15 g_b4) hZ (hw _ (List.mem_of_getElem? (i := 13) rfl)) (hw _ (List.mem_of_getElem? (i := 9) rfl)) (by decide) (by decide) hEL CH16.1) (g := (mkF m 11 #[.val (.int p1), .val (.int p2), .val (.int p3)] [(.ref b15), (.ref b4), (.ref b4)])) rfl (by rw [hml]; rfl) (Steps.refl _) (a := b4) (argsL := [(.ref b15)]) (rest := [(.ref b4)]) (lenOf pd_5 rfl) rfl (by show 2 * 0 + _ ≤ _; exact Nat.le_of_eq rfl) (hb hby d2_11) (fun _ _ => ⟨rfl, e15, (by decide : 2 + 4 ≤ _), (by decide : 4 + 8 ≤ _)⟩)
    dsimp only [Pt.U, Pt.locs, Pt.cells, Pt.slots] at Xq26 hSq26 gq26 lq26 yq26 zq26 st26 hQ26 CHq26
    subst lq26 yq26 zq26
    obtain ⟨X26, hS26, hZ, hown⟩ := rebS hS0 (by rw [e15]; exact kS17) Xq26 hSq26 gq26 hZ hown
    have CH26 := CH16.trans CHq26
    have kS27 : T26.heap.size ≤ T26.heap.size := Nat.le_refl _
    obtain ⟨b26, kb26, rfl, Nq26, K26, E26', Fv26, Fc26, Vb26⟩ := hQ26
    have N28 := Fr.app N0 Nq26
    have f29 := f18.keep K26 (allS g_b4 all0)
    have f30 := f20.keep K26
    have f31 := V15.keep K26 (ninS (Ne.symm ne_b4_b15) nin0)
    have Z32 : n0 ≤ T26.heap.size := Nat.le_trans Z23 K26.1
    have KP33 : Keep h0 T26.heap [] := KP24.trans K26 (allS (Or.inr sz_b4) all0)
    have K34 : ∀ t, Steps p.tables e below (T26.setTop (mkF m 14 #[.val (.int p1), .val (.int p2), .val (.int p3)] [(.ref b4)])) t → Steps p.tables e below G t := fun t k => K25 t (st26.trans k)
    have CHt := CH26.trans (CHv.at (s := s) (vm0 := T26.vm) X26 hZ hEL CH26.1)
    obtain ⟨fs, hr, hrun, hended, hEnd⟩ := Jvm.Stand.leaveW (s := s) (vm₁ := T26.vm) X26 hS26 kS27 (v := some (.ref b4)) (fun h => by rw [Bd.returns] at h; cases h)
    have KF := K34
    rw [hG] at KF
    refine ⟨_, _, KF _ ?_, hrun, hended, _, _, rfl, ?_, (by show CHr Z own_EL s.vm s.heap T26.vm T26.heap; rw [hh]; exact CHt), hEnd.1, hEnd.2.1, hEnd.2.2.1, hEnd.2.2.2.mono (by decide) (by decide)⟩
    · show Steps p.tables e below (T26.setTop (mkF m 14 #[.val (.int p1), .val (.int p2), .val (.int p3)] [(.ref b4)])) _
      exact own_retA X26 hx Bd.returns rfl rfl rfl (hb hby d2_14) hr
    · show Q2 Z p1 p2 p3 h0 n0 _ T26.heap _
      exact ⟨_, _, _, _, _, rfl, N28, KP33, sz_b4, ⟨E26', Fv26, Fc26, Vb26⟩, Or.inl ⟨hc2, rfl, rfl⟩⟩
  · have K35 : ∀ t, Steps p.tables e below (s₁.setTop (mkF m 17 #[.val (.int p1), .val (.int p2), .val (.int p3)] [(.int (1 : Int32)), (.int p3)])) t → Steps p.tables e below G t := by
      intro t k
      refine K1 t ?_
      show Steps p.tables e below (s₁.setTop (mkF m 1 #[.val (.int p1), .val (.int p2), .val (.int p3)] [(.int p3)])) _
      refine XS.ifYes X0.here hx rfl (pc0 := 1) (pc' := 15) rfl (hb hby d2_1) rfl ((if0 _ _).trans (feq hc2).2) (by decide) (by decide) ?_
      show Steps p.tables e below (s₁.setTop (mkF m 15 #[.val (.int p1), .val (.int p2), .val (.int p3)] [])) _
      refine XS.iloadN X0.here hx rfl (hb hby d2_15) rfl ?_
      show Steps p.tables e below (s₁.setTop (mkF m 16 #[.val (.int p1), .val (.int p2), .val (.int p3)] [(.int p3)])) _
      refine XS.iconst X0.here hx rfl (hb hby d2_16) ?_
      show Steps p.tables e below (s₁.setTop (mkF m 17 #[.val (.int p1), .val (.int p2), .val (.int p3)] [(.int (1 : Int32)), (.int p3)])) _
      exact k
    by_cases hc36 : p3 = (1 : Int32)
    · have K37 : ∀ t, Steps p.tables e below (s₁.setTop (mkF m 20 #[.val (.int p1), .val (.int p2), .val (.int p3)] [])) t → Steps p.tables e below G t := by
        intro t k
        refine K35 t ?_
        show Steps p.tables e below (s₁.setTop (mkF m 17 #[.val (.int p1), .val (.int p2), .val (.int p3)] [(.int (1 : Int32)), (.int p3)])) _
        refine XS.icmpNo X0.here hx rfl (hb hby d2_17) rfl (teq hc36).2 ?_
        show Steps p.tables e below (s₁.setTop (mkF m 20 #[.val (.int p1), .val (.int p2), .val (.int p3)] [])) _
        exact k
      obtain ⟨T38, h38, X38, e38, E38, A38, D38, -, st38⟩ := newO X0 hx hZ hown (hw _ (List.mem_of_getElem? (i := 7) rfl)) (hw _ (List.mem_of_getElem? (i := 8) rfl)) (hw _ (List.mem_of_getElem? (i := 9) rfl)) e0 (g := (mkF m 20 #[.val (.int p1), .val (.int p2), .val (.int p3)] [])) rfl (hb hby d2_20) (by decide) (by decide)
      obtain ⟨b38, g38⟩ : ∃ z, z = h0.size := ⟨_, rfl⟩
      rw [← g38] at A38 D38 st38
      have g_b38 : n0 ≤ b38 := Nat.le_trans Z0 (Nat.le_of_eq g38.symm)
      have sz_b38 : h0.size ≤ b38 := Nat.le_trans KP0.1 (Nat.le_of_eq g38.symm)
      have U39 : Safe Z own_EL s.vm h38 b38 := Safe.ext E38 CH0.1 (Safe.new (Nat.le_of_eq g38.symm))
      have CH40 : CHr Z own_EL s.vm h0 s.vm h38 := CH0.trans (CHr.ext E38 CH0.1)
      have kS41 := Nat.le_trans kS0 E38.1
      have f42 := O0.ext E38
      have Z43 : n0 ≤ h38.size := Nat.le_trans Z0 E38.1
      have KP44 : Keep h0 h38 [] := KP0.ext E38
      have K45 : ∀ t, Steps p.tables e below (T38.setTop (mkF m 23 #[.val (.int p1), .val (.int p2), .val (.int p3)] [(.ref b38)])) t → Steps p.tables e below G t := fun t k => K37 t (st38 t k)
      have f46 : Fld Z h38 b38 "java/lang/String" "coder" "B" (.int (0 : Int32)) := D38 (Or.inr (hw _ (List.mem_of_getElem? (i := 34) rfl))) (ty := .byte) (by decide)
      have f47 : Fld Z h38 b38 "java/lang/String" "value" "[B" .null := D38 (Or.inr (hw _ (List.mem_of_getElem? (i := 36) rfl))) (ty := (.array .byte)) (by decide)
      have K48 : ∀ t, Steps p.tables e below (T38.setTop (mkF m 25 #[.val (.int p1), .val (.int p2), .val (.int p3)] [(.int (1 : Int32)), (.ref b38), (.ref b38)])) t → Steps p.tables e below G t := by
        intro t k
        refine K45 t ?_
        show Steps p.tables e below (T38.setTop (mkF m 23 #[.val (.int p1), .val (.int p2), .val (.int p3)] [(.ref b38)])) _
        refine XS.dup X38.here hx rfl (hb hby d2_23) rfl rfl ?_
        show Steps p.tables e below (T38.setTop (mkF m 24 #[.val (.int p1), .val (.int p2), .val (.int p3)] [(.ref b38), (.ref b38)])) _
        refine XS.iconst X38.here hx rfl (hb hby d2_24) ?_
        show Steps p.tables e below (T38.setTop (mkF m 25 #[.val (.int p1), .val (.int p2), .val (.int p3)] [(.int (1 : Int32)), (.ref b38), (.ref b38)])) _
        exact k
      obtain ⟨T49, h49, kn49, X49, e49, E49, A49, st49⟩ := newP X38 hx hZ (hw _ (List.mem_of_getElem? (i := 10) rfl)) e38 (g := (mkF m 25 #[.val (.int p1), .val (.int p2), .val (.int p3)] [(.int (1 : Int32)), (.ref b38), (.ref b38)])) rfl (hb hby d2_25) rfl (by decide) (cap := 1) (by decide) (by decide) (by decide) (by decide)
      obtain ⟨b49, g49⟩ : ∃ z, z = h38.size := ⟨_, rfl⟩
      rw [← g49] at A49 st49
      have ne_b38_b49 : b38 ≠ b49 := Nat.ne_of_lt (Nat.lt_of_lt_of_le A38.lt (Nat.le_of_eq g49.symm))
      have g_b49 : n0 ≤ b49 := Nat.le_trans Z43 (Nat.le_of_eq g49.symm)
      have sz_b49 : h0.size ≤ b49 := Nat.le_trans KP44.1 (Nat.le_of_eq g49.symm)
      have CH50 : CHr Z own_EL s.vm h0 s.vm h49 := CH40.trans (CHr.ext E49 CH40.1)
      have kS51 := Nat.le_trans kS41 E49.1
      have f52 := f42.ext E49
      have f53 := Safe.ext E49 CH40.1 U39
      have f54 := A38.ext E49
      have f55 := f46.ext E49
      have f56 := f47.ext E49
      have Z57 : n0 ≤ h49.size := Nat.le_trans Z43 E49.1
      have KP58 : Keep h0 h49 [] := KP44.ext E49
      have K59 : ∀ t, Steps p.tables e below (T49.setTop (mkF m 27 #[.val (.int p1), .val (.int p2), .val (.int p3)] [(.ref b49), (.ref b38), (.ref b38)])) t → Steps p.tables e below G t := fun t k => K48 t (st49 t k)
      have V49 : Arv Z h49 b49 kn49 .char (1 : Int32) [(.int (0 : Int32))] (.int (0 : Int32)) := (Arv.new A49 (by decide)).pad (pad_rep [] (.int (0 : Int32)) 1)
      have K60 : ∀ t, Steps p.tables e below (T49.setTop (mkF m 31 #[.val (.int p1), .val (.int p2), .val (.int p3)] [(.int (p1.toUInt32.toUInt16.toUInt32.toInt32)), (.int (0 : Int32)), (.ref b49), (.ref b49), (.ref b38), (.ref b38)])) t → Steps p.tables e below G t := by
        intro t k
        refine K59 t ?_
        show Steps p.tables e below (T49.setTop (mkF m 27 #[.val (.int p1), .val (.int p2), .val (.int p3)] [(.ref b49), (.ref b38), (.ref b38)])) _
        refine XS.dup X49.here hx rfl (hb hby d2_27) rfl rfl ?_
        show Steps p.tables e below (T49.setTop (mkF m 28 #[.val (.int p1), .val (.int p2), .val (.int p3)] [(.ref b49), (.ref b49), (.ref b38), (.ref b38)])) _
        refine XS.iconst X49.here hx rfl (hb hby d2_28) ?_
        show Steps p.tables e below (T49.setTop (mkF m 29 #[.val (.int p1), .val (.int p2), .val (.int p3)] [(.int (0 : Int32)), (.ref b49), (.ref b49), (.ref b38), (.ref b38)])) _
        refine XS.iloadN X49.here hx rfl (hb hby d2_29) rfl ?_
        show Steps p.tables e below (T49.setTop (mkF m 30 #[.val (.int p1), .val (.int p2), .val (.int p3)] [(.int p1), (.int (0 : Int32)), (.ref b49), (.ref b49), (.ref b38), (.ref b38)])) _
        refine XS.i2c X49.here hx rfl (hb hby d2_30) rfl ?_
        show Steps p.tables e below (T49.setTop (mkF m 31 #[.val (.int p1), .val (.int p2), .val (.int p3)] [(.int (p1.toUInt32.toUInt16.toUInt32.toInt32)), (.int (0 : Int32)), (.ref b49), (.ref b49), (.ref b38), (.ref b38)])) _
        exact k
      obtain ⟨cl61, Ar61, qc61, S61, M61, Ha61, Ga61⟩ := id V49
      have hin61 : ¬ ((0 : Int32) < 0 ∨ cl61.slots.size ≤ ((0 : Int32)).toNatClampNeg) := inb_of S61 ⟨by decide, by decide⟩
      obtain ⟨T61, h61, X61, e61, W61, st61⟩ := stC X49 hx hZ e49 Ar61 (j := (0 : Int32)) hin61 (g := (mkF m 31 #[.val (.int p1), .val (.int p2), .val (.int p3)] [(.int (p1.toUInt32.toUInt16.toUInt32.toInt32)), (.int (0 : Int32)), (.ref b49), (.ref b49), (.ref b38), (.ref b38)])) rfl rfl (hb hby d2_31)
      have V61 : Arv Z h61 b49 kn49 .char (1 : Int32) [(.int (nar .char (p1.toUInt32.toUInt16.toUInt32.toInt32)))] (.int (0 : Int32)) := Arv.set Ar61 qc61 S61 M61 Ha61 Ga61 (fits_nar_char _) W61 0 rfl (Nat.le_of_ble_eq_true rfl)
      have K62 : ∀ t, Steps p.tables e below (T61.setTop (mkF m 32 #[.val (.int p1), .val (.int p2), .val (.int p3)] [(.ref b49), (.ref b38), (.ref b38)])) t → Steps p.tables e below G t := fun t k => K60 t (st61 t k)
      have f63 := f52.wr W61 g_b49
      have f64 := Safe.wr W61 (Safe.arr hZ.alike Ar61 (by decide)) CH50.1 f53
      have f65 := f54.wr W61
      have f66 := f55.other W61 (Or.inl ne_b38_b49)
      have f67 := f56.other W61 (Or.inl ne_b38_b49)
      have CH68 : CHr Z own_EL s.vm h0 s.vm h61 := CH50.trans (CHr.wr W61 (Safe.arr hZ.alike Ar61 (by decide)) CH50.1)
      have kS69 := Nat.le_trans kS51 (Keep.of_wr W61).1
      have Z70 : n0 ≤ h61.size := Nat.le_trans Z57 (Keep.of_wr W61).1
      have KP71 : Keep h0 h61 [] := KP58.wr W61 (Or.inr sz_b49)
      have N72 := Fr.snoc X61 N0 g_b49
      obtain ⟨_, _, ⟨T73, L73, kk73, nn73⟩, -, X73, ⟨Lc73, hQ73, lq73, yq73, zq73⟩, st73⟩ := X61.specialBack hx (y := (⟨"java/lang/String", "<init>", "([C)V"⟩ : MethodName)) rfl hown (mvT hZ (hw _ (List.mem_of_getElem? (i := 11) rfl))) (mvT hZ (hw _ (List.mem_of_getElem? (i := 12) rfl))) (mvT hZ (hw _ (List.mem_of_getElem? (i := 13) rfl))) (by decide) (backOf (W := 1) (rm3_1 l Z a0 hw [] b38 b49 kn49 cs (nar .char (p1.toUInt32.toUInt16.toUInt32.toInt32)) h61 n0 Z70 f65 f67 f66 V61 g_b38 SC hcs f63 hq0) hZ (hw _ (List.mem_of_getElem? (i := 13) rfl)) (hw _ (List.mem_of_getElem? (i := 9) rfl)) (by decide) (by decide)) (g := (mkF m 32 #[.val (.int p1), .val (.int p2), .val (.int p3)] [(.ref b49), (.ref b38), (.ref b38)])) rfl (by rw [hml]; rfl) (Steps.refl _) (a := b38) (argsL := [(.ref b49)]) (rest := [(.ref b38)]) (lenOf pd_5 rfl) rfl (by show 2 * 0 + _ ≤ _; exact Nat.le_of_eq rfl) (hb hby d2_32) (fun _ _ => ⟨rfl, e61, (by decide : 2 + 1 ≤ _), (by decide : 5 + 1 ≤ _)⟩)
      dsimp only [Pt.U, Pt.locs, Pt.cells, Pt.slots] at X73 lq73 yq73 zq73 st73 hQ73
      subst lq73 yq73 zq73
      obtain ⟨b73, kb73, rfl, Nq73, K73, sz73, E73', Fv73, Fc73, Vb73⟩ := hQ73
      have N74 := Fr.app N72 Nq73
      have ne_b38_b73 : b38 ≠ b73 := Nat.ne_of_lt (Nat.lt_of_lt_of_le f65.lt sz73)
      have ne_b49_b73 : b49 ≠ b73 := Nat.ne_of_lt (Nat.lt_of_lt_of_le V61.lt sz73)
      have g_b73 : n0 ≤ b73 := Nat.le_trans Z70 sz73
      have sz_b73 : h0.size ≤ b73 := Nat.le_trans KP71.1 sz73
      have CH75 : CHr Z own_EL s.vm h0 s.vm T73.heap := CH68.trans (CHr.keep K73 (allS f64 all0) CH68.1)
      have kS76 := Nat.le_trans kS69 K73.1
      have f77 := f63.keep K73 (allS g_b38 all0)
      have f78 := Safe.keep K73 (allS f64 all0) CH68.1 f64
      have f79 := f65.keep K73
      have f80 := V61.keep K73 (ninS (Ne.symm ne_b38_b49) nin0)
      have Z81 : n0 ≤ T73.heap.size := Nat.le_trans Z70 K73.1
      have KP82 : Keep h0 T73.heap [] := KP71.trans K73 (allS (Or.inr sz_b38) all0)
      have K83 : ∀ t, Steps p.tables e below (T73.setTop (mkF m 35 #[.val (.int p1), .val (.int p2), .val (.int p3)] [(.ref b38)])) t → Steps p.tables e below G t := fun t k => K62 t (st73.trans k)
      have CHt := CH75.trans (CHv.at (s := s) (vm0 := s.vm) X73 hZ hEL CH75.1)
      obtain ⟨fs, hr, hrun, hended, hEnd⟩ := Jvm.Stand.leaveW (s := s) (vm₁ := s.vm) X73 hS0 kS76 (v := some (.ref b38)) (fun h => by rw [Bd.returns] at h; cases h)
      have KF := K83
      rw [hG] at KF
      refine ⟨_, _, KF _ ?_, hrun, hended, _, _, rfl, ?_, (by show CHr Z own_EL s.vm s.heap T73.vm T73.heap; rw [hh]; exact CHt), hEnd.1, hEnd.2.1, hEnd.2.2.1, hEnd.2.2.2.mono (by decide) (by decide)⟩
      · show Steps p.tables e below (T73.setTop (mkF m 35 #[.val (.int p1), .val (.int p2), .val (.int p3)] [(.ref b38)])) _
        exact own_retA X73 hx Bd.returns rfl rfl rfl (hb hby d2_35) hr
      · show Q2 Z p1 p2 p3 h0 n0 _ T73.heap _
        exact ⟨_, _, _, _, _, rfl, N74, KP82, sz_b38, ⟨E73', Fv73, Fc73, Vb73⟩, Or.inr (Or.inl ⟨hc36, rfl, rfl⟩)⟩
    · have K84 : ∀ t, Steps p.tables e below (s₁.setTop (mkF m 36 #[.val (.int p1), .val (.int p2), .val (.int p3)] [])) t → Steps p.tables e below G t := by
        intro t k
        refine K35 t ?_
        show Steps p.tables e below (s₁.setTop (mkF m 17 #[.val (.int p1), .val (.int p2), .val (.int p3)] [(.int (1 : Int32)), (.int p3)])) _
        refine XS.icmpYes X0.here hx rfl (pc0 := 17) (pc' := 36) rfl (hb hby d2_17) rfl (feq hc36).2 (by decide) (by decide) ?_
        show Steps p.tables e below (s₁.setTop (mkF m 36 #[.val (.int p1), .val (.int p2), .val (.int p3)] [])) _
        exact k
      obtain ⟨T85, h85, X85, e85, E85, A85, D85, -, st85⟩ := newO X0 hx hZ hown (hw _ (List.mem_of_getElem? (i := 7) rfl)) (hw _ (List.mem_of_getElem? (i := 8) rfl)) (hw _ (List.mem_of_getElem? (i := 9) rfl)) e0 (g := (mkF m 36 #[.val (.int p1), .val (.int p2), .val (.int p3)] [])) rfl (hb hby d2_36) (by decide) (by decide)
      obtain ⟨b85, g85⟩ : ∃ z, z = h0.size := ⟨_, rfl⟩
      rw [← g85] at A85 D85 st85
      have g_b85 : n0 ≤ b85 := Nat.le_trans Z0 (Nat.le_of_eq g85.symm)
      have sz_b85 : h0.size ≤ b85 := Nat.le_trans KP0.1 (Nat.le_of_eq g85.symm)
      have U86 : Safe Z own_EL s.vm h85 b85 := Safe.ext E85 CH0.1 (Safe.new (Nat.le_of_eq g85.symm))
      have CH87 : CHr Z own_EL s.vm h0 s.vm h85 := CH0.trans (CHr.ext E85 CH0.1)
      have kS88 := Nat.le_trans kS0 E85.1
      have f89 := O0.ext E85
      have Z90 : n0 ≤ h85.size := Nat.le_trans Z0 E85.1
      have KP91 : Keep h0 h85 [] := KP0.ext E85
      have K92 : ∀ t, Steps p.tables e below (T85.setTop (mkF m 39 #[.val (.int p1), .val (.int p2), .val (.int p3)] [(.ref b85)])) t → Steps p.tables e below G t := fun t k => K84 t (st85 t k)
      have f93 : Fld Z h85 b85 "java/lang/String" "coder" "B" (.int (0 : Int32)) := D85 (Or.inr (hw _ (List.mem_of_getElem? (i := 34) rfl))) (ty := .byte) (by decide)
      have f94 : Fld Z h85 b85 "java/lang/String" "value" "[B" .null := D85 (Or.inr (hw _ (List.mem_of_getElem? (i := 36) rfl))) (ty := (.array .byte)) (by decide)
      have K95 : ∀ t, Steps p.tables e below (T85.setTop (mkF m 41 #[.val (.int p1), .val (.int p2), .val (.int p3)] [(.int (2 : Int32)), (.ref b85), (.ref b85)])) t → Steps p.tables e below G t := by
        intro t k
        refine K92 t ?_
        show Steps p.tables e below (T85.setTop (mkF m 39 #[.val (.int p1), .val (.int p2), .val (.int p3)] [(.ref b85)])) _
        refine XS.dup X85.here hx rfl (hb hby d2_39) rfl rfl ?_
        show Steps p.tables e below (T85.setTop (mkF m 40 #[.val (.int p1), .val (.int p2), .val (.int p3)] [(.ref b85), (.ref b85)])) _
        refine XS.iconst X85.here hx rfl (hb hby d2_40) ?_
        show Steps p.tables e below (T85.setTop (mkF m 41 #[.val (.int p1), .val (.int p2), .val (.int p3)] [(.int (2 : Int32)), (.ref b85), (.ref b85)])) _
        exact k
      obtain ⟨T96, h96, kn96, X96, e96, E96, A96, st96⟩ := newP X85 hx hZ (hw _ (List.mem_of_getElem? (i := 10) rfl)) e85 (g := (mkF m 41 #[.val (.int p1), .val (.int p2), .val (.int p3)] [(.int (2 : Int32)), (.ref b85), (.ref b85)])) rfl (hb hby d2_41) rfl (by decide) (cap := 2) (by decide) (by decide) (by decide) (by decide)
      obtain ⟨b96, g96⟩ : ∃ z, z = h85.size := ⟨_, rfl⟩
      rw [← g96] at A96 st96
      have ne_b85_b96 : b85 ≠ b96 := Nat.ne_of_lt (Nat.lt_of_lt_of_le A85.lt (Nat.le_of_eq g96.symm))
      have g_b96 : n0 ≤ b96 := Nat.le_trans Z90 (Nat.le_of_eq g96.symm)
      have sz_b96 : h0.size ≤ b96 := Nat.le_trans KP91.1 (Nat.le_of_eq g96.symm)
      have CH97 : CHr Z own_EL s.vm h0 s.vm h96 := CH87.trans (CHr.ext E96 CH87.1)
      have kS98 := Nat.le_trans kS88 E96.1
      have f99 := f89.ext E96
      have f100 := Safe.ext E96 CH87.1 U86
      have f101 := A85.ext E96
      have f102 := f93.ext E96
      have f103 := f94.ext E96
      have Z104 : n0 ≤ h96.size := Nat.le_trans Z90 E96.1
      have KP105 : Keep h0 h96 [] := KP91.ext E96
      have K106 : ∀ t, Steps p.tables e below (T96.setTop (mkF m 43 #[.val (.int p1), .val (.int p2), .val (.int p3)] [(.ref b96), (.ref b85), (.ref b85)])) t → Steps p.tables e below G t := fun t k => K95 t (st96 t k)
      have V96 : Arv Z h96 b96 kn96 .char (2 : Int32) [(.int (0 : Int32)), (.int (0 : Int32))] (.int (0 : Int32)) := (Arv.new A96 (by decide)).pad (pad_rep [] (.int (0 : Int32)) 2)
      have K107 : ∀ t, Steps p.tables e below (T96.setTop (mkF m 47 #[.val (.int p1), .val (.int p2), .val (.int p3)] [(.int (p1.toUInt32.toUInt16.toUInt32.toInt32)), (.int (0 : Int32)), (.ref b96), (.ref b96), (.ref b85), (.ref b85)])) t → Steps p.tables e below G t := by
        intro t k
        refine K106 t ?_
        show Steps p.tables e below (T96.setTop (mkF m 43 #[.val (.int p1), .val (.int p2), .val (.int p3)] [(.ref b96), (.ref b85), (.ref b85)])) _
        refine XS.dup X96.here hx rfl (hb hby d2_43) rfl rfl ?_
        show Steps p.tables e below (T96.setTop (mkF m 44 #[.val (.int p1), .val (.int p2), .val (.int p3)] [(.ref b96), (.ref b96), (.ref b85), (.ref b85)])) _
        refine XS.iconst X96.here hx rfl (hb hby d2_44) ?_
        show Steps p.tables e below (T96.setTop (mkF m 45 #[.val (.int p1), .val (.int p2), .val (.int p3)] [(.int (0 : Int32)), (.ref b96), (.ref b96), (.ref b85), (.ref b85)])) _
        refine XS.iloadN X96.here hx rfl (hb hby d2_45) rfl ?_
        show Steps p.tables e below (T96.setTop (mkF m 46 #[.val (.int p1), .val (.int p2), .val (.int p3)] [(.int p1), (.int (0 : Int32)), (.ref b96), (.ref b96), (.ref b85), (.ref b85)])) _
        refine XS.i2c X96.here hx rfl (hb hby d2_46) rfl ?_
        show Steps p.tables e below (T96.setTop (mkF m 47 #[.val (.int p1), .val (.int p2), .val (.int p3)] [(.int (p1.toUInt32.toUInt16.toUInt32.toInt32)), (.int (0 : Int32)), (.ref b96), (.ref b96), (.ref b85), (.ref b85)])) _
        exact k
      obtain ⟨cl108, Ar108, qc108, S108, M108, Ha108, Ga108⟩ := id V96
      have hin108 : ¬ ((0 : Int32) < 0 ∨ cl108.slots.size ≤ ((0 : Int32)).toNatClampNeg) := inb_of S108 ⟨by decide, by decide⟩
      obtain ⟨T108, h108, X108, e108, W108, st108⟩ := stC X96 hx hZ e96 Ar108 (j := (0 : Int32)) hin108 (g := (mkF m 47 #[.val (.int p1), .val (.int p2), .val (.int p3)] [(.int (p1.toUInt32.toUInt16.toUInt32.toInt32)), (.int (0 : Int32)), (.ref b96), (.ref b96), (.ref b85), (.ref b85)])) rfl rfl (hb hby d2_47)
      have V108 : Arv Z h108 b96 kn96 .char (2 : Int32) [(.int (nar .char (p1.toUInt32.toUInt16.toUInt32.toInt32))), (.int (0 : Int32))] (.int (0 : Int32)) := Arv.set Ar108 qc108 S108 M108 Ha108 Ga108 (fits_nar_char _) W108 0 rfl (Nat.le_of_ble_eq_true rfl)
      have K109 : ∀ t, Steps p.tables e below (T108.setTop (mkF m 48 #[.val (.int p1), .val (.int p2), .val (.int p3)] [(.ref b96), (.ref b85), (.ref b85)])) t → Steps p.tables e below G t := fun t k => K107 t (st108 t k)
      have f110 := f99.wr W108 g_b96
      have f111 := Safe.wr W108 (Safe.arr hZ.alike Ar108 (by decide)) CH97.1 f100
      have f112 := f101.wr W108
      have f113 := f102.other W108 (Or.inl ne_b85_b96)
      have f114 := f103.other W108 (Or.inl ne_b85_b96)
      have CH115 : CHr Z own_EL s.vm h0 s.vm h108 := CH97.trans (CHr.wr W108 (Safe.arr hZ.alike Ar108 (by decide)) CH97.1)
      have kS116 := Nat.le_trans kS98 (Keep.of_wr W108).1
      have Z117 : n0 ≤ h108.size := Nat.le_trans Z104 (Keep.of_wr W108).1
      have KP118 : Keep h0 h108 [] := KP105.wr W108 (Or.inr sz_b96)
      have N119 := Fr.snoc X108 N0 g_b96
      have K120 : ∀ t, Steps p.tables e below (T108.setTop (mkF m 52 #[.val (.int p1), .val (.int p2), .val (.int p3)] [(.int (p2.toUInt32.toUInt16.toUInt32.toInt32)), (.int (1 : Int32)), (.ref b96), (.ref b96), (.ref b85), (.ref b85)])) t → Steps p.tables e below G t := by
        intro t k
        refine K109 t ?_
        show Steps p.tables e below (T108.setTop (mkF m 48 #[.val (.int p1), .val (.int p2), .val (.int p3)] [(.ref b96), (.ref b85), (.ref b85)])) _
        refine XS.dup X108.here hx rfl (hb hby d2_48) rfl rfl ?_
        show Steps p.tables e below (T108.setTop (mkF m 49 #[.val (.int p1), .val (.int p2), .val (.int p3)] [(.ref b96), (.ref b96), (.ref b85), (.ref b85)])) _
        refine XS.iconst X108.here hx rfl (hb hby d2_49) ?_
        show Steps p.tables e below (T108.setTop (mkF m 50 #[.val (.int p1), .val (.int p2), .val (.int p3)] [(.int (1 : Int32)), (.ref b96), (.ref b96), (.ref b85), (.ref b85)])) _
        refine XS.iloadN X108.here hx rfl (hb hby d2_50) rfl ?_
        show Steps p.tables e below (T108.setTop (mkF m 51 #[.val (.int p1), .val (.int p2), .val (.int p3)] [(.int p2), (.int (1 : Int32)), (.ref b96), (.ref b96), (.ref b85), (.ref b85)])) _
        refine XS.i2c X108.here hx rfl (hb hby d2_51) rfl ?_
        show Steps p.tables e below (T108.setTop (mkF m 52 #[.val (.int p1), .val (.int p2), .val (.int p3)] [(.int (p2.toUInt32.toUInt16.toUInt32.toInt32)), (.int (1 : Int32)), (.ref b96), (.ref b96), (.ref b85), (.ref b85)])) _
        exact k
      obtain ⟨cl121, Ar121, qc121, S121, M121, Ha121, Ga121⟩ := id V108
      have hin121 : ¬ ((1 : Int32) < 0 ∨ cl121.slots.size ≤ ((1 : Int32)).toNatClampNeg) := inb_of S121 ⟨by decide, by decide⟩
      obtain ⟨T121, h121, X121, e121, W121, st121⟩ := stC X108 hx hZ e108 Ar121 (j := (1 : Int32)) hin121 (g := (mkF m 52 #[.val (.int p1), .val (.int p2), .val (.int p3)] [(.int (p2.toUInt32.toUInt16.toUInt32.toInt32)), (.int (1 : Int32)), (.ref b96), (.ref b96), (.ref b85), (.ref b85)])) rfl rfl (hb hby d2_52)
      have V121 : Arv Z h121 b96 kn96 .char (2 : Int32) [(.int (nar .char (p1.toUInt32.toUInt16.toUInt32.toInt32))), (.int (nar .char (p2.toUInt32.toUInt16.toUInt32.toInt32)))] (.int (0 : Int32)) := Arv.set Ar121 qc121 S121 M121 Ha121 Ga121 (fits_nar_char _) W121 1 rfl (Nat.le_of_ble_eq_true rfl)
      have K122 : ∀ t, Steps p.tables e below (T121.setTop (mkF m 53 #[.val (.int p1), .val (.int p2), .val (.int p3)] [(.ref b96), (.ref b85), (.ref b85)])) t → Steps p.tables e below G t := fun t k => K120 t (st121 t k)
      have f123 := f110.wr W121 g_b96
      have f124 := Safe.wr W121 (Safe.arr hZ.alike Ar121 (by decide)) CH115.1 f111
      have f125 := f112.wr W121
      have f126 := f113.other W121 (Or.inl ne_b85_b96)
      have f127 := f114.other W121 (Or.inl ne_b85_b96)
      have CH128 : CHr Z own_EL s.vm h0 s.vm h121 := CH115.trans (CHr.wr W121 (Safe.arr hZ.alike Ar121 (by decide)) CH115.1)
      have kS129 := Nat.le_trans kS116 (Keep.of_wr W121).1
      have Z130 : n0 ≤ h121.size := Nat.le_trans Z117 (Keep.of_wr W121).1
      have KP131 : Keep h0 h121 [] := KP118.wr W121 (Or.inr sz_b96)
      have N132 := Fr.snoc X121 N119 g_b96
      obtain ⟨_, _, ⟨T133, L133, kk133, nn133⟩, -, X133, ⟨Lc133, hQ133, lq133, yq133, zq133⟩, st133⟩ := X121.specialBack hx (y := (⟨"java/lang/String", "<init>", "([C)V"⟩ : MethodName)) rfl hown (mvT hZ (hw _ (List.mem_of_getElem? (i := 11) rfl))) (mvT hZ (hw _ (List.mem_of_getElem? (i := 12) rfl))) (mvT hZ (hw _ (List.mem_of_getElem? (i := 13) rfl))) (by decide) (backOf (W := 1) (rm3_2 l Z a0 hw [] b85 b96 kn96 cs (nar .char (p1.toUInt32.toUInt16.toUInt32.toInt32)) (nar .char (p2.toUInt32.toUInt16.toUInt32.toInt32)) h121 n0 Z130 f125 f127 f126 V121 g_b85 SC hcs f123 hq0 hq1) hZ (hw _ (List.mem_of_getElem? (i := 13) rfl)) (hw _ (List.mem_of_getElem? (i := 9) rfl)) (by decide) (by decide)) (g := (mkF m 53 #[.val (.int p1), .val (.int p2), .val (.int p3)] [(.ref b96), (.ref b85), (.ref b85)])) rfl (by rw [hml]; rfl) (Steps.refl _) (a := b85) (argsL := [(.ref b96)]) (rest := [(.ref b85)]) (lenOf pd_5 rfl) rfl (by show 2 * 0 + _ ≤ _; exact Nat.le_of_eq rfl) (hb hby d2_53) (fun _ _ => ⟨rfl, e121, (by decide : 2 + 1 ≤ _), (by decide : 6 + 2 ≤ _)⟩)
      dsimp only [Pt.U, Pt.locs, Pt.cells, Pt.slots] at X133 lq133 yq133 zq133 st133 hQ133
      subst lq133 yq133 zq133
      obtain ⟨b133, kb133, rfl, Nq133, K133, sz133, E133', Fv133, Fc133, Vb133⟩ := hQ133
      have N134 := Fr.app N132 Nq133
      have ne_b85_b133 : b85 ≠ b133 := Nat.ne_of_lt (Nat.lt_of_lt_of_le f125.lt sz133)
      have ne_b96_b133 : b96 ≠ b133 := Nat.ne_of_lt (Nat.lt_of_lt_of_le V121.lt sz133)
      have g_b133 : n0 ≤ b133 := Nat.le_trans Z130 sz133
      have sz_b133 : h0.size ≤ b133 := Nat.le_trans KP131.1 sz133
      have CH135 : CHr Z own_EL s.vm h0 s.vm T133.heap := CH128.trans (CHr.keep K133 (allS f124 all0) CH128.1)
      have kS136 := Nat.le_trans kS129 K133.1
      have f137 := f123.keep K133 (allS g_b85 all0)
      have f138 := Safe.keep K133 (allS f124 all0) CH128.1 f124
      have f139 := f125.keep K133
      have f140 := V121.keep K133 (ninS (Ne.symm ne_b85_b96) nin0)
      have Z141 : n0 ≤ T133.heap.size := Nat.le_trans Z130 K133.1
      have KP142 : Keep h0 T133.heap [] := KP131.trans K133 (allS (Or.inr sz_b85) all0)
      have K143 : ∀ t, Steps p.tables e below (T133.setTop (mkF m 56 #[.val (.int p1), .val (.int p2), .val (.int p3)] [(.ref b85)])) t → Steps p.tables e below G t := fun t k => K122 t (st133.trans k)
      have CHt := CH135.trans (CHv.at (s := s) (vm0 := s.vm) X133 hZ hEL CH135.1)
      obtain ⟨fs, hr, hrun, hended, hEnd⟩ := Jvm.Stand.leaveW (s := s) (vm₁ := s.vm) X133 hS0 kS136 (v := some (.ref b85)) (fun h => by rw [Bd.returns] at h; cases h)
      have KF := K143
      rw [hG] at KF
      refine ⟨_, _, KF _ ?_, hrun, hended, _, _, rfl, ?_, (by show CHr Z own_EL s.vm s.heap T133.vm T133.heap; rw [hh]; exact CHt), hEnd.1, hEnd.2.1, hEnd.2.2.1, hEnd.2.2.2.mono (by decide) (by decide)⟩
      · show Steps p.tables e below (T133.setTop (mkF m 56 #[.val (.int p1), .val (.int p2), .val (.int p3)] [(.ref b85)])) _
        exact own_retA X133 hx Bd.returns rfl rfl rfl (hb hby d2_56) hr
      · show Q2 Z p1 p2 p3 h0 n0 _ T133.heap _
        exact ⟨_, _, _, _, _, rfl, N134, KP142, sz_b85, ⟨E133', Fv133, Fc133, Vb133⟩, Or.inr (Or.inr ⟨hc2, hc36, rfl, rfl⟩)⟩
theorem own_i2c {c : Int32} (h : 0 ≤ c.toInt ∧ c.toInt ≤ 255) : c.toUInt32.toUInt16.toUInt32.toInt32 = c ∧ ¬ (255 : Int32) < nar .char (c.toUInt32.toUInt16.toUInt32.toInt32) := by
  have a := c_i2c c
  have e : c.toUInt32.toUInt16.toUInt32.toInt32 = c := Int32.toInt_inj.mp (by omega)
  refine ⟨e, ?_⟩
  rw [e]; show ¬ (255 : Int32) < c.toUInt32.toUInt16.toUInt32.toInt32; rw [e, Int32.lt_iff_toInt_lt]; have z : (255 : Int32).toInt = 255 := rfl; omega
theorem own_255 {x c : Int32} (h : c = x &&& (255 : Int32)) : 0 ≤ c.toInt ∧ c.toInt ≤ 255 := by
  have m := c_mask x 255 8 (by decide) (by decide); rw [← h] at m; omega
theorem own_if255 {P : Prop} [Decidable P] {a c x : Int32} (h : c = if P then x &&& (255 : Int32) else a) (ha : 0 ≤ a.toInt ∧ a.toInt ≤ 255) : 0 ≤ c.toInt ∧ c.toInt ≤ 255 := by
  by_cases q : P
  · rw [if_pos q] at h; exact own_255 h
  · rw [if_neg q] at h; rw [h]; exact ha
theorem own_l3 {x c : Int32} (h : c = (x &&& (3 : Int32)) % (3 : Int32)) : c = 0 ∨ c = 1 ∨ c = 2 := by
  have m := c_mask x 3 2 (by decide) (by decide)
  have r := (c_irem (x &&& 3) 3 3 rfl).1 (by rw [m]; omega)
  rw [← h] at r
  rcases (show c.toInt = 0 ∨ c.toInt = 1 ∨ c.toInt = 2 by omega) with q | q | q
  · exact Or.inl (Int32.toInt_inj.mp q)
  · exact Or.inr (Or.inl (Int32.toInt_inj.mp q))
  · exact Or.inr (Or.inr (Int32.toInt_inj.mp q))
theorem own_ifl3 {P : Prop} [Decidable P] {a c x : Int32} (h : c = if P then (x &&& (3 : Int32)) % (3 : Int32) else a) (ha : a = 0 ∨ a = 1 ∨ a = 2) : c = 0 ∨ c = 1 ∨ c = 2 := by
  by_cases q : P
  · rw [if_pos q] at h; exact own_l3 h
  · rw [if_neg q] at h; rw [h]; exact ha
def own_sm (a0 a1 la b0 b1 lb : Int32) : Int32 := if la = lb then (if la < (1 : Int32) then (if la < (2 : Int32) then (1 : Int32) else (if a1 = b1 then (1 : Int32) else (0 : Int32))) else (if a0 = b0 then (if la < (2 : Int32) then (1 : Int32) else (if a1 = b1 then (1 : Int32) else (0 : Int32))) else (0 : Int32))) else (0 : Int32)
theorem own_sm_says (a0 a1 la b0 b1 lb : Int32) : own_says (own_sm a0 a1 la b0 b1 lb) (la = lb ∧ (la < 1 ∨ a0 = b0) ∧ (la < 2 ∨ a1 = b1)) := by
  unfold own_sm
  by_cases q2 : la = lb
  · rw [if_pos q2]
    by_cases q3 : la < 1
    · rw [if_pos q3]
      by_cases q4 : la < 2
      · rw [if_pos q4]; exact Or.inl ⟨rfl, q2, Or.inl q3, Or.inl q4⟩
      · rw [if_neg q4]
        by_cases q5 : a1 = b1
        · rw [if_pos q5]; exact Or.inl ⟨rfl, q2, Or.inl q3, Or.inr q5⟩
        · rw [if_neg q5]; exact Or.inr ⟨rfl, fun z => z.2.2.elim q4 q5⟩
    · rw [if_neg q3]
      by_cases q6 : a0 = b0
      · rw [if_pos q6]
        by_cases q4 : la < 2
        · rw [if_pos q4]; exact Or.inl ⟨rfl, q2, Or.inr q6, Or.inl q4⟩
        · rw [if_neg q4]
          by_cases q5 : a1 = b1
          · rw [if_pos q5]; exact Or.inl ⟨rfl, q2, Or.inr q6, Or.inr q5⟩
          · rw [if_neg q5]; exact Or.inr ⟨rfl, fun z => z.2.2.elim q4 q5⟩
      · rw [if_neg q6]; exact Or.inr ⟨rfl, fun z => z.2.1.elim q3 q6⟩
  · rw [if_neg q2]; exact Or.inr ⟨rfl, fun z => q2 z.1⟩
theorem own_says_no {r : Int32} {P : Prop} (h : own_says r P) (q : r = 0) : ¬ P := by
  rcases h with ⟨a, b⟩ | ⟨a, b⟩
  · rw [a] at q; exact absurd q (by decide)
  · exact b
theorem own_says_yes {r : Int32} {P : Prop} (h : own_says r P) (q : ¬ r = 0) : P := by
  rcases h with ⟨a, b⟩ | ⟨a, b⟩
  · exact b
  · exact absurd a q
theorem own_noinst {Z : State} {a0 : Array Value} {C K O : String} {n : Nat} (w : (Jvm.Cond.superclass C O).before a0 Z = true) (wo : (Jvm.Cond.noSuperclass O).before a0 Z = true) (wk : (Jvm.Cond.instantiable K n).before a0 Z = true) (hCK : C ≠ K) (hOK : O ≠ K) : ∃ c t, Z.vm.findClass C = some c ∧ Z.vm.findClass K = some t ∧ Z.vm.assignable c t = false := by
  obtain ⟨co, ko, o1, o2, o3, -, -⟩ := Cond.noSuperclass_spec wo
  obtain ⟨t, kt, t1, t2, t3, t4, -⟩ := Cond.instantiable_spec wk
  obtain ⟨c, h0⟩ := found_sup w
  obtain ⟨p, k, kp, h1, h2, h3, h4, h5, -, h7⟩ := Cond.superclass_spec h0 w
  cases o1.symm.trans h1
  have ne1 := ids_ne h0 t1 hCK
  have ne2 := ids_ne o1 t1 hOK
  have t5 : kt.isInterface = false := (Bool.or_eq_false_iff.mp t4).1
  have so : ∀ fuel, Z.vm.isSubclassAux fuel co t = false := fun fuel => by
    cases fuel with
    | zero => rfl
    | succ f => simp [Vm.isSubclassAux, ne2, o2, o3]
  have sc : ∀ fuel, Z.vm.isSubclassAux fuel c t = false := fun fuel => by
    cases fuel with
    | zero => rfl
    | succ f => simp [Vm.isSubclassAux, ne1, h2, h4, so]
  refine ⟨c, t, h0, t1, ?_⟩
  show Z.vm.assignableAux (255 + 1) c t = false
  simp [Vm.assignableAux, ne1, h2, t2, h5, t3, t5, Vm.isSubclass, sc]
def Q1 (p1 : Int32) (h0 : Heap) (n0 : Nat) (v : Option Value) (h : Heap) (L : List Loc) : Prop := v = some (.int ((p1 &&& (3 : Int32)) % (3 : Int32))) ∧ Fr n0 L ∧ h = h0
theorem d1_0 : decode method_2_code 0 = .ok (.iload_n 0, 1) := by decide +kernel
theorem d1_1 : decode method_2_code 1 = .ok (.iconst 3, 1) := by decide +kernel
theorem d1_2 : decode method_2_code 2 = .ok (.iand, 1) := by decide +kernel
theorem d1_3 : decode method_2_code 3 = .ok (.iconst 3, 1) := by decide +kernel
theorem d1_4 : decode method_2_code 4 = .ok (.irem, 1) := by decide +kernel
theorem d1_5 : decode method_2_code 5 = .ok (.ireturn, 1) := by decide +kernel
theorem ef_rm1 (m : MethodId) (x0 : Int32) : entryFrame m #[(.int x0)] 1 = mkF m 0 #[.val (.int x0)] [] := by first | (simp [entryFrame, mkF, argsToLocals, Value.category]; done) | rfl
set_option maxRecDepth 65536 in
set_option maxHeartbeats 40000000 in
theorem rm1 (l : Launch) (Z : State) (a0 : Array Value) (hw : ∀ d ∈ tables_1, d.before a0 Z = true) (ws : List Jvm.Cond) (p1 : Int32) (h0 : Heap) (n0 : Nat) (Z0 : n0 ≤ h0.size) :
    MetFree l (⟨"com/example/conq/conq/model/GroupPartitionEqualsPinLaw", "len", "(I)I"⟩ : MethodName) (head1 (Jvm.Cond.code (⟨"com/example/conq/conq/model/GroupPartitionEqualsPinLaw", "len", "(I)I"⟩ : MethodName) method_2_code 1 (some .int) :: ws) ({ frames := 0, cells := 0, slots := 0, locals := 0 } : Room)) (fun a U => a = #[(.int p1)] ∧ Z.Warmed39 U.vm ∧ U.heap = h0) (fun _ _ _ _ _ => True) (fun _ U o U' => ∃ v L, o = .returned v ∧ Q1 p1 h0 n0 v U'.heap L ∧ FrameEnd U o U' L ({ frames := 0, cells := 0, slots := 0, locals := 0 } : Room).cells ({ frames := 0, cells := 0, slots := 0, locals := 0 } : Room).slots) := by
  refine MetFree.of_bodySF (plainFor_of_name pn_com_example_conq_conq_model_GroupPartitionEqualsPinLaw) hisR ?_
  intro p e s m args below meth c s₁ Bd hml0 hP hK
  obtain ⟨rfl, hZ, hh⟩ := hP
  have hx := Bd.exec
  have hby := Bd.bytes
  have hml : c.maxLocals = 1 := hml0
  have hown : s.vm.findClass "com/example/conq/conq/model/GroupPartitionEqualsPinLaw" = some m.cls := findClass_of_methodNamed Bd.named
  have hnm := (name_of_methodNamed Bd.named Bd.method).1
  have X0 : Stand p l e ({ frames := 0, cells := 0, slots := 0, locals := 0 } : Room) s m #[(.int p1)] below meth c s₁ [] 0 0 := Stand.of_body Bd
  have e0 : s₁.heap = h0 := by rw [← hh, Bd.state]; rfl
  have N0 := Fr.nil n0
  have KP0 : Keep h0 h0 [] := Keep.refl h0 _
  obtain ⟨G, hG⟩ : ∃ G : State, G = s₁.setTop (entryFrame m #[(.int p1)] 1) := ⟨_, rfl⟩
  have pre0 : ∀ t, Steps p.tables e below (s₁.setTop (mkF m 0 #[.val (.int p1)] [])) t → Steps p.tables e below G t := fun t k => hG ▸ castTop (ef_rm1 m p1) k
  obtain ⟨fs, hr, hrun, hended, hW, hsame⟩ := X0.leave (v := some (.int ((p1 &&& (3 : Int32)) % (3 : Int32)))) (fun h => by rw [Bd.returns] at h; cases h)
  have KF := pre0
  rw [hG] at KF
  refine ⟨_, _, KF _ ?_, hrun, hended, _, _, rfl, ?_, ⟨_, rfl⟩, hW, hsame.mono (by decide) (by decide)⟩
  · show Steps p.tables e below (s₁.setTop (mkF m 0 #[.val (.int p1)] [])) _
    refine XS.iloadN X0.here hx rfl (hb hby d1_0) rfl ?_
    show Steps p.tables e below (s₁.setTop (mkF m 1 #[.val (.int p1)] [(.int p1)])) _
    refine XS.iconst X0.here hx rfl (hb hby d1_1) ?_
    show Steps p.tables e below (s₁.setTop (mkF m 2 #[.val (.int p1)] [(.int (3 : Int32)), (.int p1)])) _
    refine XS.iand X0.here hx rfl (hb hby d1_2) rfl ?_
    show Steps p.tables e below (s₁.setTop (mkF m 3 #[.val (.int p1)] [(.int (p1 &&& (3 : Int32)))])) _
    refine XS.iconst X0.here hx rfl (hb hby d1_3) ?_
    show Steps p.tables e below (s₁.setTop (mkF m 4 #[.val (.int p1)] [(.int (3 : Int32)), (.int (p1 &&& (3 : Int32)))])) _
    refine iremM X0 hx rfl (hb hby d1_4) rfl (by decide) ?_
    show Steps p.tables e below (s₁.setTop (mkF m 5 #[.val (.int p1)] [(.int ((p1 &&& (3 : Int32)) % (3 : Int32)))])) _
    exact own_retI X0 hx Bd.returns (hb hby d1_5) hr
  · show Q1 p1 h0 n0 _ s₁.heap _
    rw [e0]
    exact ⟨rfl, N0, rfl⟩
def Q10 (p1 p2 p3 p4 p5 p6 : Int32) (h0 : Heap) (n0 : Nat) (v : Option Value) (h : Heap) (L : List Loc) : Prop := v = some (.int (own_sm p1 p2 p3 p4 p5 p6)) ∧ Fr n0 L ∧ h = h0
theorem d10_0 : decode method_4_code 0 = .ok (.iload_n 2, 1) := by decide +kernel
theorem d10_1 : decode method_4_code 1 = .ok (.iload 5, 2) := by decide +kernel
theorem d10_3 : decode method_4_code 3 = .ok (.if_icmp .eq 5, 3) := by decide +kernel
theorem d10_6 : decode method_4_code 6 = .ok (.iconst 0, 1) := by decide +kernel
theorem d10_7 : decode method_4_code 7 = .ok (.ireturn, 1) := by decide +kernel
theorem d10_8 : decode method_4_code 8 = .ok (.iload_n 2, 1) := by decide +kernel
theorem d10_9 : decode method_4_code 9 = .ok (.iconst 1, 1) := by decide +kernel
theorem d10_10 : decode method_4_code 10 = .ok (.if_icmp .lt 10, 3) := by decide +kernel
theorem d10_13 : decode method_4_code 13 = .ok (.iload_n 0, 1) := by decide +kernel
theorem d10_14 : decode method_4_code 14 = .ok (.iload_n 3, 1) := by decide +kernel
theorem d10_15 : decode method_4_code 15 = .ok (.if_icmp .eq 5, 3) := by decide +kernel
theorem d10_18 : decode method_4_code 18 = .ok (.iconst 0, 1) := by decide +kernel
theorem d10_19 : decode method_4_code 19 = .ok (.ireturn, 1) := by decide +kernel
theorem d10_20 : decode method_4_code 20 = .ok (.iload_n 2, 1) := by decide +kernel
theorem d10_21 : decode method_4_code 21 = .ok (.iconst 2, 1) := by decide +kernel
theorem d10_22 : decode method_4_code 22 = .ok (.if_icmp .lt 11, 3) := by decide +kernel
theorem d10_25 : decode method_4_code 25 = .ok (.iload_n 1, 1) := by decide +kernel
theorem d10_26 : decode method_4_code 26 = .ok (.iload 4, 2) := by decide +kernel
theorem d10_28 : decode method_4_code 28 = .ok (.if_icmp .eq 5, 3) := by decide +kernel
theorem d10_31 : decode method_4_code 31 = .ok (.iconst 0, 1) := by decide +kernel
theorem d10_32 : decode method_4_code 32 = .ok (.ireturn, 1) := by decide +kernel
theorem d10_33 : decode method_4_code 33 = .ok (.iconst 1, 1) := by decide +kernel
theorem d10_34 : decode method_4_code 34 = .ok (.ireturn, 1) := by decide +kernel
theorem ef_rm10 (m : MethodId) (x0 : Int32) (x1 : Int32) (x2 : Int32) (x3 : Int32) (x4 : Int32) (x5 : Int32) : entryFrame m #[(.int x0), (.int x1), (.int x2), (.int x3), (.int x4), (.int x5)] 6 = mkF m 0 #[.val (.int x0), .val (.int x1), .val (.int x2), .val (.int x3), .val (.int x4), .val (.int x5)] [] := by first | (simp [entryFrame, mkF, argsToLocals, Value.category]; done) | rfl
set_option maxRecDepth 65536 in
set_option maxHeartbeats 40000000 in
theorem rm10 (l : Launch) (Z : State) (a0 : Array Value) (hw : ∀ d ∈ tables_1, d.before a0 Z = true) (ws : List Jvm.Cond) (p1 p2 p3 p4 p5 p6 : Int32) (h0 : Heap) (n0 : Nat) (Z0 : n0 ≤ h0.size) :
    MetFree l (⟨"com/example/conq/conq/model/GroupPartitionEqualsPinLaw", "same", "(IIIIII)Z"⟩ : MethodName) (head1 (Jvm.Cond.code (⟨"com/example/conq/conq/model/GroupPartitionEqualsPinLaw", "same", "(IIIIII)Z"⟩ : MethodName) method_4_code 6 (some .boolean) :: ws) ({ frames := 0, cells := 0, slots := 0, locals := 0 } : Room)) (fun a U => a = #[(.int p1), (.int p2), (.int p3), (.int p4), (.int p5), (.int p6)] ∧ Z.Warmed39 U.vm ∧ U.heap = h0) (fun _ _ _ _ _ => True) (fun _ U o U' => ∃ v L, o = .returned v ∧ Q10 p1 p2 p3 p4 p5 p6 h0 n0 v U'.heap L ∧ FrameEnd U o U' L ({ frames := 0, cells := 0, slots := 0, locals := 0 } : Room).cells ({ frames := 0, cells := 0, slots := 0, locals := 0 } : Room).slots) := by
  refine MetFree.of_bodySF (plainFor_of_name pn_com_example_conq_conq_model_GroupPartitionEqualsPinLaw) hisR ?_
  intro p e s m args below meth c s₁ Bd hml0 hP hK
  obtain ⟨rfl, hZ, hh⟩ := hP
  have hx := Bd.exec
  have hby := Bd.bytes
  have hml : c.maxLocals = 6 := hml0
  have hown : s.vm.findClass "com/example/conq/conq/model/GroupPartitionEqualsPinLaw" = some m.cls := findClass_of_methodNamed Bd.named
  have hnm := (name_of_methodNamed Bd.named Bd.method).1
  have X0 : Stand p l e ({ frames := 0, cells := 0, slots := 0, locals := 0 } : Room) s m #[(.int p1), (.int p2), (.int p3), (.int p4), (.int p5), (.int p6)] below meth c s₁ [] 0 0 := Stand.of_body Bd
  have e0 : s₁.heap = h0 := by rw [← hh, Bd.state]; rfl
  have N0 := Fr.nil n0
  have KP0 : Keep h0 h0 [] := Keep.refl h0 _
  obtain ⟨G, hG⟩ : ∃ G : State, G = s₁.setTop (entryFrame m #[(.int p1), (.int p2), (.int p3), (.int p4), (.int p5), (.int p6)] 6) := ⟨_, rfl⟩
  have pre0 : ∀ t, Steps p.tables e below (s₁.setTop (mkF m 0 #[.val (.int p1), .val (.int p2), .val (.int p3), .val (.int p4), .val (.int p5), .val (.int p6)] [])) t → Steps p.tables e below G t := fun t k => hG ▸ castTop (ef_rm10 m p1 p2 p3 p4 p5 p6) k
  have K1 : ∀ t, Steps p.tables e below (s₁.setTop (mkF m 3 #[.val (.int p1), .val (.int p2), .val (.int p3), .val (.int p4), .val (.int p5), .val (.int p6)] [(.int p6), (.int p3)])) t → Steps p.tables e below G t := by
    intro t k
    refine pre0 t ?_
    show Steps p.tables e below (s₁.setTop (mkF m 0 #[.val (.int p1), .val (.int p2), .val (.int p3), .val (.int p4), .val (.int p5), .val (.int p6)] [])) _
    refine XS.iloadN X0.here hx rfl (hb hby d10_0) rfl ?_
    show Steps p.tables e below (s₁.setTop (mkF m 1 #[.val (.int p1), .val (.int p2), .val (.int p3), .val (.int p4), .val (.int p5), .val (.int p6)] [(.int p3)])) _
    refine XS.iload X0.here hx rfl (hb hby d10_1) rfl ?_
    show Steps p.tables e below (s₁.setTop (mkF m 3 #[.val (.int p1), .val (.int p2), .val (.int p3), .val (.int p4), .val (.int p5), .val (.int p6)] [(.int p6), (.int p3)])) _
    exact k
  by_cases hc2 : p3 = p6
  · have K3 : ∀ t, Steps p.tables e below (s₁.setTop (mkF m 10 #[.val (.int p1), .val (.int p2), .val (.int p3), .val (.int p4), .val (.int p5), .val (.int p6)] [(.int (1 : Int32)), (.int p3)])) t → Steps p.tables e below G t := by
      intro t k
      refine K1 t ?_
      show Steps p.tables e below (s₁.setTop (mkF m 3 #[.val (.int p1), .val (.int p2), .val (.int p3), .val (.int p4), .val (.int p5), .val (.int p6)] [(.int p6), (.int p3)])) _
      refine XS.icmpYes X0.here hx rfl (pc0 := 3) (pc' := 8) rfl (hb hby d10_3) rfl (teq hc2).1 (by decide) (by decide) ?_
      show Steps p.tables e below (s₁.setTop (mkF m 8 #[.val (.int p1), .val (.int p2), .val (.int p3), .val (.int p4), .val (.int p5), .val (.int p6)] [])) _
      refine XS.iloadN X0.here hx rfl (hb hby d10_8) rfl ?_
      show Steps p.tables e below (s₁.setTop (mkF m 9 #[.val (.int p1), .val (.int p2), .val (.int p3), .val (.int p4), .val (.int p5), .val (.int p6)] [(.int p3)])) _
      refine XS.iconst X0.here hx rfl (hb hby d10_9) ?_
      show Steps p.tables e below (s₁.setTop (mkF m 10 #[.val (.int p1), .val (.int p2), .val (.int p3), .val (.int p4), .val (.int p5), .val (.int p6)] [(.int (1 : Int32)), (.int p3)])) _
      exact k
    by_cases hc4 : p3 < (1 : Int32)
    · have K5 : ∀ t, Steps p.tables e below (s₁.setTop (mkF m 22 #[.val (.int p1), .val (.int p2), .val (.int p3), .val (.int p4), .val (.int p5), .val (.int p6)] [(.int (2 : Int32)), (.int p3)])) t → Steps p.tables e below G t := by
        intro t k
        refine K3 t ?_
        show Steps p.tables e below (s₁.setTop (mkF m 10 #[.val (.int p1), .val (.int p2), .val (.int p3), .val (.int p4), .val (.int p5), .val (.int p6)] [(.int (1 : Int32)), (.int p3)])) _
        refine XS.icmpYes X0.here hx rfl (pc0 := 10) (pc' := 20) rfl (hb hby d10_10) rfl (tlt hc4).1 (by decide) (by decide) ?_
        show Steps p.tables e below (s₁.setTop (mkF m 20 #[.val (.int p1), .val (.int p2), .val (.int p3), .val (.int p4), .val (.int p5), .val (.int p6)] [])) _
        refine XS.iloadN X0.here hx rfl (hb hby d10_20) rfl ?_
        show Steps p.tables e below (s₁.setTop (mkF m 21 #[.val (.int p1), .val (.int p2), .val (.int p3), .val (.int p4), .val (.int p5), .val (.int p6)] [(.int p3)])) _
        refine XS.iconst X0.here hx rfl (hb hby d10_21) ?_
        show Steps p.tables e below (s₁.setTop (mkF m 22 #[.val (.int p1), .val (.int p2), .val (.int p3), .val (.int p4), .val (.int p5), .val (.int p6)] [(.int (2 : Int32)), (.int p3)])) _
        exact k
      by_cases hc6 : p3 < (2 : Int32)
      · obtain ⟨fs, hr, hrun, hended, hW, hsame⟩ := X0.leave (v := some (.int (1 : Int32))) (fun h => by rw [Bd.returns] at h; cases h)
        have KF := K5
        rw [hG] at KF
        refine ⟨_, _, KF _ ?_, hrun, hended, _, _, rfl, ?_, ⟨_, rfl⟩, hW, hsame.mono (by decide) (by decide)⟩
        · show Steps p.tables e below (s₁.setTop (mkF m 22 #[.val (.int p1), .val (.int p2), .val (.int p3), .val (.int p4), .val (.int p5), .val (.int p6)] [(.int (2 : Int32)), (.int p3)])) _
          refine XS.icmpYes X0.here hx rfl (pc0 := 22) (pc' := 33) rfl (hb hby d10_22) rfl (tlt hc6).1 (by decide) (by decide) ?_
          show Steps p.tables e below (s₁.setTop (mkF m 33 #[.val (.int p1), .val (.int p2), .val (.int p3), .val (.int p4), .val (.int p5), .val (.int p6)] [])) _
          refine XS.iconst X0.here hx rfl (hb hby d10_33) ?_
          show Steps p.tables e below (s₁.setTop (mkF m 34 #[.val (.int p1), .val (.int p2), .val (.int p3), .val (.int p4), .val (.int p5), .val (.int p6)] [(.int (1 : Int32))])) _
          exact retN X0 hx (t := .boolean) Bd.returns (by simp) (hb hby d10_34) hr
        · show Q10 p1 p2 p3 p4 p5 p6 h0 n0 _ s₁.heap _
          rw [e0]
          exact ⟨by simp only [own_sm, if_pos hc2, if_pos hc4, if_pos hc6], N0, rfl⟩
      · have K7 : ∀ t, Steps p.tables e below (s₁.setTop (mkF m 28 #[.val (.int p1), .val (.int p2), .val (.int p3), .val (.int p4), .val (.int p5), .val (.int p6)] [(.int p5), (.int p2)])) t → Steps p.tables e below G t := by
          intro t k
          refine K5 t ?_
          show Steps p.tables e below (s₁.setTop (mkF m 22 #[.val (.int p1), .val (.int p2), .val (.int p3), .val (.int p4), .val (.int p5), .val (.int p6)] [(.int (2 : Int32)), (.int p3)])) _
          refine XS.icmpNo X0.here hx rfl (hb hby d10_22) rfl (flt hc6).1 ?_
          show Steps p.tables e below (s₁.setTop (mkF m 25 #[.val (.int p1), .val (.int p2), .val (.int p3), .val (.int p4), .val (.int p5), .val (.int p6)] [])) _
          refine XS.iloadN X0.here hx rfl (hb hby d10_25) rfl ?_
          show Steps p.tables e below (s₁.setTop (mkF m 26 #[.val (.int p1), .val (.int p2), .val (.int p3), .val (.int p4), .val (.int p5), .val (.int p6)] [(.int p2)])) _
          refine XS.iload X0.here hx rfl (hb hby d10_26) rfl ?_
          show Steps p.tables e below (s₁.setTop (mkF m 28 #[.val (.int p1), .val (.int p2), .val (.int p3), .val (.int p4), .val (.int p5), .val (.int p6)] [(.int p5), (.int p2)])) _
          exact k
        by_cases hc8 : p2 = p5
        · obtain ⟨fs, hr, hrun, hended, hW, hsame⟩ := X0.leave (v := some (.int (1 : Int32))) (fun h => by rw [Bd.returns] at h; cases h)
          have KF := K7
          rw [hG] at KF
          refine ⟨_, _, KF _ ?_, hrun, hended, _, _, rfl, ?_, ⟨_, rfl⟩, hW, hsame.mono (by decide) (by decide)⟩
          · show Steps p.tables e below (s₁.setTop (mkF m 28 #[.val (.int p1), .val (.int p2), .val (.int p3), .val (.int p4), .val (.int p5), .val (.int p6)] [(.int p5), (.int p2)])) _
            refine XS.icmpYes X0.here hx rfl (pc0 := 28) (pc' := 33) rfl (hb hby d10_28) rfl (teq hc8).1 (by decide) (by decide) ?_
            show Steps p.tables e below (s₁.setTop (mkF m 33 #[.val (.int p1), .val (.int p2), .val (.int p3), .val (.int p4), .val (.int p5), .val (.int p6)] [])) _
            refine XS.iconst X0.here hx rfl (hb hby d10_33) ?_
            show Steps p.tables e below (s₁.setTop (mkF m 34 #[.val (.int p1), .val (.int p2), .val (.int p3), .val (.int p4), .val (.int p5), .val (.int p6)] [(.int (1 : Int32))])) _
            exact retN X0 hx (t := .boolean) Bd.returns (by simp) (hb hby d10_34) hr
          · show Q10 p1 p2 p3 p4 p5 p6 h0 n0 _ s₁.heap _
            rw [e0]
            exact ⟨by simp only [own_sm, if_pos hc2, if_pos hc4, if_neg hc6, if_pos hc8], N0, rfl⟩
        · obtain ⟨fs, hr, hrun, hended, hW, hsame⟩ := X0.leave (v := some (.int (0 : Int32))) (fun h => by rw [Bd.returns] at h; cases h)
          have KF := K7
          rw [hG] at KF
          refine ⟨_, _, KF _ ?_, hrun, hended, _, _, rfl, ?_, ⟨_, rfl⟩, hW, hsame.mono (by decide) (by decide)⟩
          · show Steps p.tables e below (s₁.setTop (mkF m 28 #[.val (.int p1), .val (.int p2), .val (.int p3), .val (.int p4), .val (.int p5), .val (.int p6)] [(.int p5), (.int p2)])) _
            refine XS.icmpNo X0.here hx rfl (hb hby d10_28) rfl (feq hc8).1 ?_
            show Steps p.tables e below (s₁.setTop (mkF m 31 #[.val (.int p1), .val (.int p2), .val (.int p3), .val (.int p4), .val (.int p5), .val (.int p6)] [])) _
            refine XS.iconst X0.here hx rfl (hb hby d10_31) ?_
            show Steps p.tables e below (s₁.setTop (mkF m 32 #[.val (.int p1), .val (.int p2), .val (.int p3), .val (.int p4), .val (.int p5), .val (.int p6)] [(.int (0 : Int32))])) _
            exact retN X0 hx (t := .boolean) Bd.returns (by simp) (hb hby d10_32) hr
          · show Q10 p1 p2 p3 p4 p5 p6 h0 n0 _ s₁.heap _
            rw [e0]
            exact ⟨by simp only [own_sm, if_pos hc2, if_pos hc4, if_neg hc6, if_neg hc8], N0, rfl⟩
    · have K9 : ∀ t, Steps p.tables e below (s₁.setTop (mkF m 15 #[.val (.int p1), .val (.int p2), .val (.int p3), .val (.int p4), .val (.int p5), .val (.int p6)] [(.int p4), (.int p1)])) t → Steps p.tables e below G t := by
        intro t k
        refine K3 t ?_
        show Steps p.tables e below (s₁.setTop (mkF m 10 #[.val (.int p1), .val (.int p2), .val (.int p3), .val (.int p4), .val (.int p5), .val (.int p6)] [(.int (1 : Int32)), (.int p3)])) _
        refine XS.icmpNo X0.here hx rfl (hb hby d10_10) rfl (flt hc4).1 ?_
        show Steps p.tables e below (s₁.setTop (mkF m 13 #[.val (.int p1), .val (.int p2), .val (.int p3), .val (.int p4), .val (.int p5), .val (.int p6)] [])) _
        refine XS.iloadN X0.here hx rfl (hb hby d10_13) rfl ?_
        show Steps p.tables e below (s₁.setTop (mkF m 14 #[.val (.int p1), .val (.int p2), .val (.int p3), .val (.int p4), .val (.int p5), .val (.int p6)] [(.int p1)])) _
        refine XS.iloadN X0.here hx rfl (hb hby d10_14) rfl ?_
        show Steps p.tables e below (s₁.setTop (mkF m 15 #[.val (.int p1), .val (.int p2), .val (.int p3), .val (.int p4), .val (.int p5), .val (.int p6)] [(.int p4), (.int p1)])) _
        exact k
      by_cases hc10 : p1 = p4
      · have K11 : ∀ t, Steps p.tables e below (s₁.setTop (mkF m 22 #[.val (.int p1), .val (.int p2), .val (.int p3), .val (.int p4), .val (.int p5), .val (.int p6)] [(.int (2 : Int32)), (.int p3)])) t → Steps p.tables e below G t := by
          intro t k
          refine K9 t ?_
          show Steps p.tables e below (s₁.setTop (mkF m 15 #[.val (.int p1), .val (.int p2), .val (.int p3), .val (.int p4), .val (.int p5), .val (.int p6)] [(.int p4), (.int p1)])) _
          refine XS.icmpYes X0.here hx rfl (pc0 := 15) (pc' := 20) rfl (hb hby d10_15) rfl (teq hc10).1 (by decide) (by decide) ?_
          show Steps p.tables e below (s₁.setTop (mkF m 20 #[.val (.int p1), .val (.int p2), .val (.int p3), .val (.int p4), .val (.int p5), .val (.int p6)] [])) _
          refine XS.iloadN X0.here hx rfl (hb hby d10_20) rfl ?_
          show Steps p.tables e below (s₁.setTop (mkF m 21 #[.val (.int p1), .val (.int p2), .val (.int p3), .val (.int p4), .val (.int p5), .val (.int p6)] [(.int p3)])) _
          refine XS.iconst X0.here hx rfl (hb hby d10_21) ?_
          show Steps p.tables e below (s₁.setTop (mkF m 22 #[.val (.int p1), .val (.int p2), .val (.int p3), .val (.int p4), .val (.int p5), .val (.int p6)] [(.int (2 : Int32)), (.int p3)])) _
          exact k
        by_cases hc12 : p3 < (2 : Int32)
        · obtain ⟨fs, hr, hrun, hended, hW, hsame⟩ := X0.leave (v := some (.int (1 : Int32))) (fun h => by rw [Bd.returns] at h; cases h)
          have KF := K11
          rw [hG] at KF
          refine ⟨_, _, KF _ ?_, hrun, hended, _, _, rfl, ?_, ⟨_, rfl⟩, hW, hsame.mono (by decide) (by decide)⟩
          · show Steps p.tables e below (s₁.setTop (mkF m 22 #[.val (.int p1), .val (.int p2), .val (.int p3), .val (.int p4), .val (.int p5), .val (.int p6)] [(.int (2 : Int32)), (.int p3)])) _
            refine XS.icmpYes X0.here hx rfl (pc0 := 22) (pc' := 33) rfl (hb hby d10_22) rfl (tlt hc12).1 (by decide) (by decide) ?_
            show Steps p.tables e below (s₁.setTop (mkF m 33 #[.val (.int p1), .val (.int p2), .val (.int p3), .val (.int p4), .val (.int p5), .val (.int p6)] [])) _
            refine XS.iconst X0.here hx rfl (hb hby d10_33) ?_
            show Steps p.tables e below (s₁.setTop (mkF m 34 #[.val (.int p1), .val (.int p2), .val (.int p3), .val (.int p4), .val (.int p5), .val (.int p6)] [(.int (1 : Int32))])) _
            exact retN X0 hx (t := .boolean) Bd.returns (by simp) (hb hby d10_34) hr
          · show Q10 p1 p2 p3 p4 p5 p6 h0 n0 _ s₁.heap _
            rw [e0]
            exact ⟨by simp only [own_sm, if_pos hc2, if_neg hc4, if_pos hc10, if_pos hc12], N0, rfl⟩
        · have K13 : ∀ t, Steps p.tables e below (s₁.setTop (mkF m 28 #[.val (.int p1), .val (.int p2), .val (.int p3), .val (.int p4), .val (.int p5), .val (.int p6)] [(.int p5), (.int p2)])) t → Steps p.tables e below G t := by
            intro t k
            refine K11 t ?_
            show Steps p.tables e below (s₁.setTop (mkF m 22 #[.val (.int p1), .val (.int p2), .val (.int p3), .val (.int p4), .val (.int p5), .val (.int p6)] [(.int (2 : Int32)), (.int p3)])) _
            refine XS.icmpNo X0.here hx rfl (hb hby d10_22) rfl (flt hc12).1 ?_
            show Steps p.tables e below (s₁.setTop (mkF m 25 #[.val (.int p1), .val (.int p2), .val (.int p3), .val (.int p4), .val (.int p5), .val (.int p6)] [])) _
            refine XS.iloadN X0.here hx rfl (hb hby d10_25) rfl ?_
            show Steps p.tables e below (s₁.setTop (mkF m 26 #[.val (.int p1), .val (.int p2), .val (.int p3), .val (.int p4), .val (.int p5), .val (.int p6)] [(.int p2)])) _
            refine XS.iload X0.here hx rfl (hb hby d10_26) rfl ?_
            show Steps p.tables e below (s₁.setTop (mkF m 28 #[.val (.int p1), .val (.int p2), .val (.int p3), .val (.int p4), .val (.int p5), .val (.int p6)] [(.int p5), (.int p2)])) _
            exact k
          by_cases hc14 : p2 = p5
          · obtain ⟨fs, hr, hrun, hended, hW, hsame⟩ := X0.leave (v := some (.int (1 : Int32))) (fun h => by rw [Bd.returns] at h; cases h)
            have KF := K13
            rw [hG] at KF
            refine ⟨_, _, KF _ ?_, hrun, hended, _, _, rfl, ?_, ⟨_, rfl⟩, hW, hsame.mono (by decide) (by decide)⟩
            · show Steps p.tables e below (s₁.setTop (mkF m 28 #[.val (.int p1), .val (.int p2), .val (.int p3), .val (.int p4), .val (.int p5), .val (.int p6)] [(.int p5), (.int p2)])) _
              refine XS.icmpYes X0.here hx rfl (pc0 := 28) (pc' := 33) rfl (hb hby d10_28) rfl (teq hc14).1 (by decide) (by decide) ?_
              show Steps p.tables e below (s₁.setTop (mkF m 33 #[.val (.int p1), .val (.int p2), .val (.int p3), .val (.int p4), .val (.int p5), .val (.int p6)] [])) _
              refine XS.iconst X0.here hx rfl (hb hby d10_33) ?_
              show Steps p.tables e below (s₁.setTop (mkF m 34 #[.val (.int p1), .val (.int p2), .val (.int p3), .val (.int p4), .val (.int p5), .val (.int p6)] [(.int (1 : Int32))])) _
              exact retN X0 hx (t := .boolean) Bd.returns (by simp) (hb hby d10_34) hr
            · show Q10 p1 p2 p3 p4 p5 p6 h0 n0 _ s₁.heap _
              rw [e0]
              exact ⟨by simp only [own_sm, if_pos hc2, if_neg hc4, if_pos hc10, if_neg hc12, if_pos hc14], N0, rfl⟩
          · obtain ⟨fs, hr, hrun, hended, hW, hsame⟩ := X0.leave (v := some (.int (0 : Int32))) (fun h => by rw [Bd.returns] at h; cases h)
            have KF := K13
            rw [hG] at KF
            refine ⟨_, _, KF _ ?_, hrun, hended, _, _, rfl, ?_, ⟨_, rfl⟩, hW, hsame.mono (by decide) (by decide)⟩
            · show Steps p.tables e below (s₁.setTop (mkF m 28 #[.val (.int p1), .val (.int p2), .val (.int p3), .val (.int p4), .val (.int p5), .val (.int p6)] [(.int p5), (.int p2)])) _
              refine XS.icmpNo X0.here hx rfl (hb hby d10_28) rfl (feq hc14).1 ?_
              show Steps p.tables e below (s₁.setTop (mkF m 31 #[.val (.int p1), .val (.int p2), .val (.int p3), .val (.int p4), .val (.int p5), .val (.int p6)] [])) _
              refine XS.iconst X0.here hx rfl (hb hby d10_31) ?_
              show Steps p.tables e below (s₁.setTop (mkF m 32 #[.val (.int p1), .val (.int p2), .val (.int p3), .val (.int p4), .val (.int p5), .val (.int p6)] [(.int (0 : Int32))])) _
              exact retN X0 hx (t := .boolean) Bd.returns (by simp) (hb hby d10_32) hr
            · show Q10 p1 p2 p3 p4 p5 p6 h0 n0 _ s₁.heap _
              rw [e0]
              exact ⟨by simp only [own_sm, if_pos hc2, if_neg hc4, if_pos hc10, if_neg hc12, if_neg hc14], N0, rfl⟩
      · obtain ⟨fs, hr, hrun, hended, hW, hsame⟩ := X0.leave (v := some (.int (0 : Int32))) (fun h => by rw [Bd.returns] at h; cases h)
        have KF := K9
        rw [hG] at KF
        refine ⟨_, _, KF _ ?_, hrun, hended, _, _, rfl, ?_, ⟨_, rfl⟩, hW, hsame.mono (by decide) (by decide)⟩
        · show Steps p.tables e below (s₁.setTop (mkF m 15 #[.val (.int p1), .val (.int p2), .val (.int p3), .val (.int p4), .val (.int p5), .val (.int p6)] [(.int p4), (.int p1)])) _
          refine XS.icmpNo X0.here hx rfl (hb hby d10_15) rfl (feq hc10).1 ?_
          show Steps p.tables e below (s₁.setTop (mkF m 18 #[.val (.int p1), .val (.int p2), .val (.int p3), .val (.int p4), .val (.int p5), .val (.int p6)] [])) _
          refine XS.iconst X0.here hx rfl (hb hby d10_18) ?_
          show Steps p.tables e below (s₁.setTop (mkF m 19 #[.val (.int p1), .val (.int p2), .val (.int p3), .val (.int p4), .val (.int p5), .val (.int p6)] [(.int (0 : Int32))])) _
          exact retN X0 hx (t := .boolean) Bd.returns (by simp) (hb hby d10_19) hr
        · show Q10 p1 p2 p3 p4 p5 p6 h0 n0 _ s₁.heap _
          rw [e0]
          exact ⟨by simp only [own_sm, if_pos hc2, if_neg hc4, if_neg hc10], N0, rfl⟩
  · obtain ⟨fs, hr, hrun, hended, hW, hsame⟩ := X0.leave (v := some (.int (0 : Int32))) (fun h => by rw [Bd.returns] at h; cases h)
    have KF := K1
    rw [hG] at KF
    refine ⟨_, _, KF _ ?_, hrun, hended, _, _, rfl, ?_, ⟨_, rfl⟩, hW, hsame.mono (by decide) (by decide)⟩
    · show Steps p.tables e below (s₁.setTop (mkF m 3 #[.val (.int p1), .val (.int p2), .val (.int p3), .val (.int p4), .val (.int p5), .val (.int p6)] [(.int p6), (.int p3)])) _
      refine XS.icmpNo X0.here hx rfl (hb hby d10_3) rfl (feq hc2).1 ?_
      show Steps p.tables e below (s₁.setTop (mkF m 6 #[.val (.int p1), .val (.int p2), .val (.int p3), .val (.int p4), .val (.int p5), .val (.int p6)] [])) _
      refine XS.iconst X0.here hx rfl (hb hby d10_6) ?_
      show Steps p.tables e below (s₁.setTop (mkF m 7 #[.val (.int p1), .val (.int p2), .val (.int p3), .val (.int p4), .val (.int p5), .val (.int p6)] [(.int (0 : Int32))])) _
      exact retN X0 hx (t := .boolean) Bd.returns (by simp) (hb hby d10_7) hr
    · show Q10 p1 p2 p3 p4 p5 p6 h0 n0 _ s₁.heap _
      rw [e0]
      exact ⟨by simp only [own_sm, if_neg hc2], N0, rfl⟩
def Q9 (Z : State) (a1 r2 r3 r4 : Addr) (h0 : Heap) (n0 : Nat) (v : Option Value) (h : Heap) (L : List Loc) : Prop := v = none ∧ Fr n0 L ∧ Keep h0 h [a1] ∧ Exa Z h a1 "com/example/conq/conq/model/GroupPartition" ∧ Fld Z h a1 "com/example/conq/conq/model/GroupPartition" "queue" "Ljava/lang/String;" (.ref r2) ∧ Fld Z h a1 "com/example/conq/conq/model/GroupPartition" "group" "Ljava/lang/String;" (.ref r3) ∧ Fld Z h a1 "com/example/conq/conq/model/GroupPartition" "partition" "Ljava/lang/String;" (.ref r4)
theorem d9_0 : decode prog_19_method_1_code 0 = .ok (.aload_n 0, 1) := by decide +kernel
theorem d9_1 : decode prog_19_method_1_code 1 = .ok (.invokespecial 1, 3) := by decide +kernel
theorem d9_4 : decode prog_19_method_1_code 4 = .ok (.aload_n 0, 1) := by decide +kernel
theorem d9_5 : decode prog_19_method_1_code 5 = .ok (.aload_n 1, 1) := by decide +kernel
theorem d9_6 : decode prog_19_method_1_code 6 = .ok (.putfield 7, 3) := by decide +kernel
theorem d9_9 : decode prog_19_method_1_code 9 = .ok (.aload_n 0, 1) := by decide +kernel
theorem d9_10 : decode prog_19_method_1_code 10 = .ok (.aload_n 2, 1) := by decide +kernel
theorem d9_11 : decode prog_19_method_1_code 11 = .ok (.putfield 13, 3) := by decide +kernel
theorem d9_14 : decode prog_19_method_1_code 14 = .ok (.aload_n 0, 1) := by decide +kernel
theorem d9_15 : decode prog_19_method_1_code 15 = .ok (.aload_n 3, 1) := by decide +kernel
theorem d9_16 : decode prog_19_method_1_code 16 = .ok (.putfield 16, 3) := by decide +kernel
theorem d9_19 : decode prog_19_method_1_code 19 = .ok (.return_, 1) := by decide +kernel
theorem pn_com_example_conq_conq_model_GroupPartition : plainName "com/example/conq/conq/model/GroupPartition" = true := by first | (simp [plainName, overriddenIn]; done) | decide +kernel
theorem ef_rm9 (m : MethodId) (x0 : Addr) (x1 : Addr) (x2 : Addr) (x3 : Addr) : entryFrame m #[(.ref x0), (.ref x1), (.ref x2), (.ref x3)] 4 = mkF m 0 #[.val (.ref x0), .val (.ref x1), .val (.ref x2), .val (.ref x3)] [] := by first | (simp [entryFrame, mkF, argsToLocals, Value.category]; done) | rfl
set_option maxRecDepth 65536 in
set_option maxHeartbeats 40000000 in
theorem rm9 (l : Launch) (Z : State) (a0 : Array Value) (hw : ∀ d ∈ tables_1, d.before a0 Z = true) (ws : List Jvm.Cond) (a1 r2 r3 r4 : Addr) (h0 : Heap) (n0 : Nat) (Z0 : n0 ≤ h0.size) (E1 : Exa Z h0 a1 "com/example/conq/conq/model/GroupPartition") (F0 : Fld Z h0 a1 "com/example/conq/conq/model/GroupPartition" "queue" "Ljava/lang/String;" .null) (F1 : Fld Z h0 a1 "com/example/conq/conq/model/GroupPartition" "group" "Ljava/lang/String;" .null) (F2 : Fld Z h0 a1 "com/example/conq/conq/model/GroupPartition" "partition" "Ljava/lang/String;" .null) (g1 : n0 ≤ a1) :
    MetFree l (⟨"com/example/conq/conq/model/GroupPartition", "<init>", "(Ljava/lang/String;Ljava/lang/String;Ljava/lang/String;)V"⟩ : MethodName) (head1 (Jvm.Cond.code (⟨"com/example/conq/conq/model/GroupPartition", "<init>", "(Ljava/lang/String;Ljava/lang/String;Ljava/lang/String;)V"⟩ : MethodName) prog_19_method_1_code 4 none :: ws) ({ frames := 1, cells := 0, slots := 0, locals := 12 } : Room)) (fun a U => a = #[(.ref a1), (.ref r2), (.ref r3), (.ref r4)] ∧ Z.Warmed39 U.vm ∧ U.heap = h0) (fun _ _ _ _ _ => True) (fun _ U o U' => ∃ v L, o = .returned v ∧ Q9 Z a1 r2 r3 r4 h0 n0 v U'.heap L ∧ FrameEnd U o U' L ({ frames := 1, cells := 0, slots := 0, locals := 12 } : Room).cells ({ frames := 1, cells := 0, slots := 0, locals := 12 } : Room).slots) := by
  refine MetFree.of_bodySF (plainFor_of_name pn_com_example_conq_conq_model_GroupPartition) hisR ?_
  intro p e s m args below meth c s₁ Bd hml0 hP hK
  obtain ⟨rfl, hZ, hh⟩ := hP
  have hx := Bd.exec
  have hby := Bd.bytes
  have hml : c.maxLocals = 4 := hml0
  have hown : s.vm.findClass "com/example/conq/conq/model/GroupPartition" = some m.cls := findClass_of_methodNamed Bd.named
  have hnm := (name_of_methodNamed Bd.named Bd.method).1
  have X0 : Stand p l e ({ frames := 1, cells := 0, slots := 0, locals := 12 } : Room) s m #[(.ref a1), (.ref r2), (.ref r3), (.ref r4)] below meth c s₁ [] 0 0 := Stand.of_body Bd
  have e0 : s₁.heap = h0 := by rw [← hh, Bd.state]; rfl
  have N0 := Fr.nil n0
  have KP0 : Keep h0 h0 [a1] := Keep.refl h0 _
  obtain ⟨G, hG⟩ : ∃ G : State, G = s₁.setTop (entryFrame m #[(.ref a1), (.ref r2), (.ref r3), (.ref r4)] 4) := ⟨_, rfl⟩
  have pre0 : ∀ t, Steps p.tables e below (s₁.setTop (mkF m 0 #[.val (.ref a1), .val (.ref r2), .val (.ref r3), .val (.ref r4)] [])) t → Steps p.tables e below G t := fun t k => hG ▸ castTop (ef_rm9 m a1 r2 r3 r4) k
  have K1 : ∀ t, Steps p.tables e below (s₁.setTop (mkF m 1 #[.val (.ref a1), .val (.ref r2), .val (.ref r3), .val (.ref r4)] [(.ref a1)])) t → Steps p.tables e below G t := by
    intro t k
    refine pre0 t ?_
    show Steps p.tables e below (s₁.setTop (mkF m 0 #[.val (.ref a1), .val (.ref r2), .val (.ref r3), .val (.ref r4)] [])) _
    refine XS.aloadN X0.here hx rfl (hb hby d9_0) rfl rfl ?_
    show Steps p.tables e below (s₁.setTop (mkF m 1 #[.val (.ref a1), .val (.ref r2), .val (.ref r3), .val (.ref r4)] [(.ref a1)])) _
    exact k
  obtain ⟨T2, X2, e2, st2⟩ := initO X0 hx hZ hown (hw _ (List.mem_of_getElem? (i := 46) rfl)) (hw _ (List.mem_of_getElem? (i := 19) rfl)) (hw _ (List.mem_of_getElem? (i := 20) rfl)) e0 (g := (mkF m 1 #[.val (.ref a1), .val (.ref r2), .val (.ref r3), .val (.ref r4)] [(.ref a1)])) rfl (by rw [hml]; rfl) rfl (hb hby d9_1) (by decide) (W := 0) (by show 2 * 0 + _ ≤ _; exact Nat.le_of_eq rfl) (by decide)
  have K3 : ∀ t, Steps p.tables e below (T2.setTop (mkF m 4 #[.val (.ref a1), .val (.ref r2), .val (.ref r3), .val (.ref r4)] [])) t → Steps p.tables e below G t := fun t k => K1 t (st2 t k)
  have K4 : ∀ t, Steps p.tables e below (T2.setTop (mkF m 6 #[.val (.ref a1), .val (.ref r2), .val (.ref r3), .val (.ref r4)] [(.ref r2), (.ref a1)])) t → Steps p.tables e below G t := by
    intro t k
    refine K3 t ?_
    show Steps p.tables e below (T2.setTop (mkF m 4 #[.val (.ref a1), .val (.ref r2), .val (.ref r3), .val (.ref r4)] [])) _
    refine XS.aloadN X2.here hx rfl (hb hby d9_4) rfl rfl ?_
    show Steps p.tables e below (T2.setTop (mkF m 5 #[.val (.ref a1), .val (.ref r2), .val (.ref r3), .val (.ref r4)] [(.ref a1)])) _
    refine XS.aloadN X2.here hx rfl (hb hby d9_5) rfl rfl ?_
    show Steps p.tables e below (T2.setTop (mkF m 6 #[.val (.ref a1), .val (.ref r2), .val (.ref r3), .val (.ref r4)] [(.ref r2), (.ref a1)])) _
    exact k
  obtain ⟨T5, h5, X5, e5, W5, st5⟩ := putF X2 hx hZ hown (host := "") (Or.inl (hw _ (List.mem_of_getElem? (i := 47) rfl))) Via.refl e2 F0 E1 (Or.inr ⟨(hw _ (List.mem_of_getElem? (i := 48) rfl)), rfl, hnm⟩) (hw _ (List.mem_of_getElem? (i := 41) rfl)) (ty := (.object "java/lang/String")) (by decide) rfl rfl (g := (mkF m 6 #[.val (.ref a1), .val (.ref r2), .val (.ref r3), .val (.ref r4)] [(.ref r2), (.ref a1)])) rfl rfl (hb hby d9_6)
  have K6 : ∀ t, Steps p.tables e below (T5.setTop (mkF m 9 #[.val (.ref a1), .val (.ref r2), .val (.ref r3), .val (.ref r4)] [])) t → Steps p.tables e below G t := fun t k => K4 t (st5 t k)
  have f7 := E1.wr W5
  have f8 := F0.same W5
  have f9 := F1.other W5 (Or.inr (slot_ne (Or.inr (hw _ (List.mem_of_getElem? (i := 50) rfl))) (Or.inr (hw _ (List.mem_of_getElem? (i := 48) rfl))) (by decide) (t := (.object "java/lang/String")) (t' := (.object "java/lang/String")) (by decide) (by decide)))
  have f10 := F2.other W5 (Or.inr (slot_ne (Or.inr (hw _ (List.mem_of_getElem? (i := 52) rfl))) (Or.inr (hw _ (List.mem_of_getElem? (i := 48) rfl))) (by decide) (t := (.object "java/lang/String")) (t' := (.object "java/lang/String")) (by decide) (by decide)))
  have Z11 : n0 ≤ h5.size := Nat.le_trans Z0 (Keep.of_wr W5).1
  have KP12 : Keep h0 h5 [a1] := KP0.wr W5 (Or.inl (List.mem_of_getElem? (i := 0) rfl))
  have N13 := Fr.snoc X5 N0 g1
  have K14 : ∀ t, Steps p.tables e below (T5.setTop (mkF m 11 #[.val (.ref a1), .val (.ref r2), .val (.ref r3), .val (.ref r4)] [(.ref r3), (.ref a1)])) t → Steps p.tables e below G t := by
    intro t k
    refine K6 t ?_
    show Steps p.tables e below (T5.setTop (mkF m 9 #[.val (.ref a1), .val (.ref r2), .val (.ref r3), .val (.ref r4)] [])) _
    refine XS.aloadN X5.here hx rfl (hb hby d9_9) rfl rfl ?_
    show Steps p.tables e below (T5.setTop (mkF m 10 #[.val (.ref a1), .val (.ref r2), .val (.ref r3), .val (.ref r4)] [(.ref a1)])) _
    refine XS.aloadN X5.here hx rfl (hb hby d9_10) rfl rfl ?_
    show Steps p.tables e below (T5.setTop (mkF m 11 #[.val (.ref a1), .val (.ref r2), .val (.ref r3), .val (.ref r4)] [(.ref r3), (.ref a1)])) _
    exact k
  obtain ⟨T15, h15, X15, e15, W15, st15⟩ := putF X5 hx hZ hown (host := "") (Or.inl (hw _ (List.mem_of_getElem? (i := 49) rfl))) Via.refl e5 f9 f7 (Or.inr ⟨(hw _ (List.mem_of_getElem? (i := 50) rfl)), rfl, hnm⟩) (hw _ (List.mem_of_getElem? (i := 41) rfl)) (ty := (.object "java/lang/String")) (by decide) rfl rfl (g := (mkF m 11 #[.val (.ref a1), .val (.ref r2), .val (.ref r3), .val (.ref r4)] [(.ref r3), (.ref a1)])) rfl rfl (hb hby d9_11)
  have K16 : ∀ t, Steps p.tables e below (T15.setTop (mkF m 14 #[.val (.ref a1), .val (.ref r2), .val (.ref r3), .val (.ref r4)] [])) t → Steps p.tables e below G t := fun t k => K14 t (st15 t k)
  have f17 := f7.wr W15
  have f18 := f8.other W15 (Or.inr (slot_ne (Or.inr (hw _ (List.mem_of_getElem? (i := 48) rfl))) (Or.inr (hw _ (List.mem_of_getElem? (i := 50) rfl))) (by decide) (t := (.object "java/lang/String")) (t' := (.object "java/lang/String")) (by decide) (by decide)))
  have f19 := f9.same W15
  have f20 := f10.other W15 (Or.inr (slot_ne (Or.inr (hw _ (List.mem_of_getElem? (i := 52) rfl))) (Or.inr (hw _ (List.mem_of_getElem? (i := 50) rfl))) (by decide) (t := (.object "java/lang/String")) (t' := (.object "java/lang/String")) (by decide) (by decide)))
  have Z21 : n0 ≤ h15.size := Nat.le_trans Z11 (Keep.of_wr W15).1
  have KP22 : Keep h0 h15 [a1] := KP12.wr W15 (Or.inl (List.mem_of_getElem? (i := 0) rfl))
  have N23 := Fr.snoc X15 N13 g1
  have K24 : ∀ t, Steps p.tables e below (T15.setTop (mkF m 16 #[.val (.ref a1), .val (.ref r2), .val (.ref r3), .val (.ref r4)] [(.ref r4), (.ref a1)])) t → Steps p.tables e below G t := by
    intro t k
    refine K16 t ?_
    show Steps p.tables e below (T15.setTop (mkF m 14 #[.val (.ref a1), .val (.ref r2), .val (.ref r3), .val (.ref r4)] [])) _
    refine XS.aloadN X15.here hx rfl (hb hby d9_14) rfl rfl ?_
    show Steps p.tables e below (T15.setTop (mkF m 15 #[.val (.ref a1), .val (.ref r2), .val (.ref r3), .val (.ref r4)] [(.ref a1)])) _
    refine XS.aloadN X15.here hx rfl (hb hby d9_15) rfl rfl ?_
    show Steps p.tables e below (T15.setTop (mkF m 16 #[.val (.ref a1), .val (.ref r2), .val (.ref r3), .val (.ref r4)] [(.ref r4), (.ref a1)])) _
    exact k
  obtain ⟨T25, h25, X25, e25, W25, st25⟩ := putF X15 hx hZ hown (host := "") (Or.inl (hw _ (List.mem_of_getElem? (i := 51) rfl))) Via.refl e15 f20 f17 (Or.inr ⟨(hw _ (List.mem_of_getElem? (i := 52) rfl)), rfl, hnm⟩) (hw _ (List.mem_of_getElem? (i := 41) rfl)) (ty := (.object "java/lang/String")) (by decide) rfl rfl (g := (mkF m 16 #[.val (.ref a1), .val (.ref r2), .val (.ref r3), .val (.ref r4)] [(.ref r4), (.ref a1)])) rfl rfl (hb hby d9_16)
  have K26 : ∀ t, Steps p.tables e below (T25.setTop (mkF m 19 #[.val (.ref a1), .val (.ref r2), .val (.ref r3), .val (.ref r4)] [])) t → Steps p.tables e below G t := fun t k => K24 t (st25 t k)
  have f27 := f17.wr W25
  have f28 := f18.other W25 (Or.inr (slot_ne (Or.inr (hw _ (List.mem_of_getElem? (i := 48) rfl))) (Or.inr (hw _ (List.mem_of_getElem? (i := 52) rfl))) (by decide) (t := (.object "java/lang/String")) (t' := (.object "java/lang/String")) (by decide) (by decide)))
  have f29 := f19.other W25 (Or.inr (slot_ne (Or.inr (hw _ (List.mem_of_getElem? (i := 50) rfl))) (Or.inr (hw _ (List.mem_of_getElem? (i := 52) rfl))) (by decide) (t := (.object "java/lang/String")) (t' := (.object "java/lang/String")) (by decide) (by decide)))
  have f30 := f20.same W25
  have Z31 : n0 ≤ h25.size := Nat.le_trans Z21 (Keep.of_wr W25).1
  have KP32 : Keep h0 h25 [a1] := KP22.wr W25 (Or.inl (List.mem_of_getElem? (i := 0) rfl))
  have N33 := Fr.snoc X25 N23 g1
  obtain ⟨fs, hr, hrun, hended, hW, hsame⟩ := X25.leave (v := none) (fun _ => rfl)
  have KF := K26
  rw [hG] at KF
  refine ⟨_, _, KF _ ?_, hrun, hended, _, _, rfl, ?_, ⟨_, rfl⟩, hW, hsame.mono (by decide) (by decide)⟩
  · show Steps p.tables e below (T25.setTop (mkF m 19 #[.val (.ref a1), .val (.ref r2), .val (.ref r3), .val (.ref r4)] [])) _
    exact X25.returnOut hx Bd.returns (hb hby d9_19) hr
  · show Q9 Z a1 r2 r3 r4 h0 n0 _ T25.heap _
    rw [e25]
    exact ⟨rfl, N33, KP32, f27, f28, f29, f30⟩
def Q15 (Z : State) (a1 : Addr) (h0 : Heap) (n0 : Nat) (v : Option Value) (h : Heap) (L : List Loc) : Prop := v = none ∧ Fr n0 L ∧ Keep h0 h [a1] ∧ Exa Z h a1 "com/example/conq/conq/model/PopRequest"
theorem d15_0 : decode prog_29_method_2_code 0 = .ok (.aload_n 0, 1) := by decide +kernel
theorem d15_1 : decode prog_29_method_2_code 1 = .ok (.invokespecial 7, 3) := by decide +kernel
theorem d15_4 : decode prog_29_method_2_code 4 = .ok (.aload_n 0, 1) := by decide +kernel
theorem d15_5 : decode prog_29_method_2_code 5 = .ok (.aload_n 1, 1) := by decide +kernel
theorem d15_6 : decode prog_29_method_2_code 6 = .ok (.putfield 12, 3) := by decide +kernel
theorem d15_9 : decode prog_29_method_2_code 9 = .ok (.aload_n 0, 1) := by decide +kernel
theorem d15_10 : decode prog_29_method_2_code 10 = .ok (.aload_n 2, 1) := by decide +kernel
theorem d15_11 : decode prog_29_method_2_code 11 = .ok (.putfield 16, 3) := by decide +kernel
theorem d15_14 : decode prog_29_method_2_code 14 = .ok (.aload_n 0, 1) := by decide +kernel
theorem d15_15 : decode prog_29_method_2_code 15 = .ok (.iload_n 3, 1) := by decide +kernel
theorem d15_16 : decode prog_29_method_2_code 16 = .ok (.putfield 19, 3) := by decide +kernel
theorem d15_19 : decode prog_29_method_2_code 19 = .ok (.aload_n 0, 1) := by decide +kernel
theorem d15_20 : decode prog_29_method_2_code 20 = .ok (.iload 4, 2) := by decide +kernel
theorem d15_22 : decode prog_29_method_2_code 22 = .ok (.putfield 23, 3) := by decide +kernel
theorem d15_25 : decode prog_29_method_2_code 25 = .ok (.aload_n 0, 1) := by decide +kernel
theorem d15_26 : decode prog_29_method_2_code 26 = .ok (.iload 5, 2) := by decide +kernel
theorem d15_28 : decode prog_29_method_2_code 28 = .ok (.putfield 26, 3) := by decide +kernel
theorem d15_31 : decode prog_29_method_2_code 31 = .ok (.aload_n 0, 1) := by decide +kernel
theorem d15_32 : decode prog_29_method_2_code 32 = .ok (.aload 6, 2) := by decide +kernel
theorem d15_34 : decode prog_29_method_2_code 34 = .ok (.putfield 29, 3) := by decide +kernel
theorem d15_37 : decode prog_29_method_2_code 37 = .ok (.return_, 1) := by decide +kernel
theorem pn_com_example_conq_conq_model_PopRequest : plainName "com/example/conq/conq/model/PopRequest" = true := by first | (simp [plainName, overriddenIn]; done) | decide +kernel
theorem ef_rm15 (m : MethodId) (x0 : Addr) (x1 : Addr) (x2 : Addr) (x3 : Int32) (x4 : Int32) (x5 : Int32) : entryFrame m #[(.ref x0), (.ref x1), (.ref x2), (.int x3), (.int x4), (.int x5), .null] 7 = mkF m 0 #[.val (.ref x0), .val (.ref x1), .val (.ref x2), .val (.int x3), .val (.int x4), .val (.int x5), .val .null] [] := by first | (simp [entryFrame, mkF, argsToLocals, Value.category]; done) | rfl
set_option maxRecDepth 65536 in
set_option maxHeartbeats 40000000 in
theorem rm15 (l : Launch) (Z : State) (a0 : Array Value) (hw : ∀ d ∈ tables_1, d.before a0 Z = true) (ws : List Jvm.Cond) (a1 r2 r3 : Addr) (p4 p5 p6 : Int32) (h0 : Heap) (n0 : Nat) (Z0 : n0 ≤ h0.size) (E1 : Exa Z h0 a1 "com/example/conq/conq/model/PopRequest") (F0 : Fld Z h0 a1 "com/example/conq/conq/model/PopRequest" "group" "Ljava/lang/String;" .null) (F1 : Fld Z h0 a1 "com/example/conq/conq/model/PopRequest" "partition" "Ljava/lang/String;" .null) (F2 : Fld Z h0 a1 "com/example/conq/conq/model/PopRequest" "batch" "I" (.int (0 : Int32))) (F3 : Fld Z h0 a1 "com/example/conq/conq/model/PopRequest" "leaseSeconds" "I" (.int (0 : Int32))) (F4 : Fld Z h0 a1 "com/example/conq/conq/model/PopRequest" "waitMs" "I" (.int (0 : Int32))) (F5 : Fld Z h0 a1 "com/example/conq/conq/model/PopRequest" "deadLettering" "Lcom/example/conq/conq/model/DeadLettering;" .null) (g1 : n0 ≤ a1) :
    MetFree l (⟨"com/example/conq/conq/model/PopRequest", "<init>", "(Ljava/lang/String;Ljava/lang/String;IIILcom/example/conq/conq/model/DeadLettering;)V"⟩ : MethodName) (head1 (Jvm.Cond.code (⟨"com/example/conq/conq/model/PopRequest", "<init>", "(Ljava/lang/String;Ljava/lang/String;IIILcom/example/conq/conq/model/DeadLettering;)V"⟩ : MethodName) prog_29_method_2_code 7 none :: ws) ({ frames := 1, cells := 0, slots := 0, locals := 12 } : Room)) (fun a U => a = #[(.ref a1), (.ref r2), (.ref r3), (.int p4), (.int p5), (.int p6), .null] ∧ Z.Warmed39 U.vm ∧ U.heap = h0) (fun _ _ _ _ _ => True) (fun _ U o U' => ∃ v L, o = .returned v ∧ Q15 Z a1 h0 n0 v U'.heap L ∧ FrameEnd U o U' L ({ frames := 1, cells := 0, slots := 0, locals := 12 } : Room).cells ({ frames := 1, cells := 0, slots := 0, locals := 12 } : Room).slots) := by
  refine MetFree.of_bodySF (plainFor_of_name pn_com_example_conq_conq_model_PopRequest) hisR ?_
  intro p e s m args below meth c s₁ Bd hml0 hP hK
  obtain ⟨rfl, hZ, hh⟩ := hP
  have hx := Bd.exec
  have hby := Bd.bytes
  have hml : c.maxLocals = 7 := hml0
  have hown : s.vm.findClass "com/example/conq/conq/model/PopRequest" = some m.cls := findClass_of_methodNamed Bd.named
  have hnm := (name_of_methodNamed Bd.named Bd.method).1
  have X0 : Stand p l e ({ frames := 1, cells := 0, slots := 0, locals := 12 } : Room) s m #[(.ref a1), (.ref r2), (.ref r3), (.int p4), (.int p5), (.int p6), .null] below meth c s₁ [] 0 0 := Stand.of_body Bd
  have e0 : s₁.heap = h0 := by rw [← hh, Bd.state]; rfl
  have N0 := Fr.nil n0
  have KP0 : Keep h0 h0 [a1] := Keep.refl h0 _
  obtain ⟨G, hG⟩ : ∃ G : State, G = s₁.setTop (entryFrame m #[(.ref a1), (.ref r2), (.ref r3), (.int p4), (.int p5), (.int p6), .null] 7) := ⟨_, rfl⟩
  have pre0 : ∀ t, Steps p.tables e below (s₁.setTop (mkF m 0 #[.val (.ref a1), .val (.ref r2), .val (.ref r3), .val (.int p4), .val (.int p5), .val (.int p6), .val .null] [])) t → Steps p.tables e below G t := fun t k => hG ▸ castTop (ef_rm15 m a1 r2 r3 p4 p5 p6) k
  have K1 : ∀ t, Steps p.tables e below (s₁.setTop (mkF m 1 #[.val (.ref a1), .val (.ref r2), .val (.ref r3), .val (.int p4), .val (.int p5), .val (.int p6), .val .null] [(.ref a1)])) t → Steps p.tables e below G t := by
    intro t k
    refine pre0 t ?_
    show Steps p.tables e below (s₁.setTop (mkF m 0 #[.val (.ref a1), .val (.ref r2), .val (.ref r3), .val (.int p4), .val (.int p5), .val (.int p6), .val .null] [])) _
    refine XS.aloadN X0.here hx rfl (hb hby d15_0) rfl rfl ?_
    show Steps p.tables e below (s₁.setTop (mkF m 1 #[.val (.ref a1), .val (.ref r2), .val (.ref r3), .val (.int p4), .val (.int p5), .val (.int p6), .val .null] [(.ref a1)])) _
    exact k
  obtain ⟨T2, X2, e2, st2⟩ := initO X0 hx hZ hown (hw _ (List.mem_of_getElem? (i := 82) rfl)) (hw _ (List.mem_of_getElem? (i := 19) rfl)) (hw _ (List.mem_of_getElem? (i := 20) rfl)) e0 (g := (mkF m 1 #[.val (.ref a1), .val (.ref r2), .val (.ref r3), .val (.int p4), .val (.int p5), .val (.int p6), .val .null] [(.ref a1)])) rfl (by rw [hml]; rfl) rfl (hb hby d15_1) (by decide) (W := 0) (by show 2 * 0 + _ ≤ _; exact Nat.le_of_eq rfl) (by decide)
  have K3 : ∀ t, Steps p.tables e below (T2.setTop (mkF m 4 #[.val (.ref a1), .val (.ref r2), .val (.ref r3), .val (.int p4), .val (.int p5), .val (.int p6), .val .null] [])) t → Steps p.tables e below G t := fun t k => K1 t (st2 t k)
  have K4 : ∀ t, Steps p.tables e below (T2.setTop (mkF m 6 #[.val (.ref a1), .val (.ref r2), .val (.ref r3), .val (.int p4), .val (.int p5), .val (.int p6), .val .null] [(.ref r2), (.ref a1)])) t → Steps p.tables e below G t := by
    intro t k
    refine K3 t ?_
    show Steps p.tables e below (T2.setTop (mkF m 4 #[.val (.ref a1), .val (.ref r2), .val (.ref r3), .val (.int p4), .val (.int p5), .val (.int p6), .val .null] [])) _
    refine XS.aloadN X2.here hx rfl (hb hby d15_4) rfl rfl ?_
    show Steps p.tables e below (T2.setTop (mkF m 5 #[.val (.ref a1), .val (.ref r2), .val (.ref r3), .val (.int p4), .val (.int p5), .val (.int p6), .val .null] [(.ref a1)])) _
    refine XS.aloadN X2.here hx rfl (hb hby d15_5) rfl rfl ?_
    show Steps p.tables e below (T2.setTop (mkF m 6 #[.val (.ref a1), .val (.ref r2), .val (.ref r3), .val (.int p4), .val (.int p5), .val (.int p6), .val .null] [(.ref r2), (.ref a1)])) _
    exact k
  obtain ⟨T5, h5, X5, e5, W5, st5⟩ := putF X2 hx hZ hown (host := "") (Or.inl (hw _ (List.mem_of_getElem? (i := 83) rfl))) Via.refl e2 F0 E1 (Or.inr ⟨(hw _ (List.mem_of_getElem? (i := 84) rfl)), rfl, hnm⟩) (hw _ (List.mem_of_getElem? (i := 74) rfl)) (ty := (.object "java/lang/String")) (by decide) rfl rfl (g := (mkF m 6 #[.val (.ref a1), .val (.ref r2), .val (.ref r3), .val (.int p4), .val (.int p5), .val (.int p6), .val .null] [(.ref r2), (.ref a1)])) rfl rfl (hb hby d15_6)
  have K6 : ∀ t, Steps p.tables e below (T5.setTop (mkF m 9 #[.val (.ref a1), .val (.ref r2), .val (.ref r3), .val (.int p4), .val (.int p5), .val (.int p6), .val .null] [])) t → Steps p.tables e below G t := fun t k => K4 t (st5 t k)
  have f7 := E1.wr W5
  have f8 := F0.same W5
  have f9 := F1.other W5 (Or.inr (slot_ne (Or.inr (hw _ (List.mem_of_getElem? (i := 86) rfl))) (Or.inr (hw _ (List.mem_of_getElem? (i := 84) rfl))) (by decide) (t := (.object "java/lang/String")) (t' := (.object "java/lang/String")) (by decide) (by decide)))
  have f10 := F2.other W5 (Or.inr (slot_ne (Or.inr (hw _ (List.mem_of_getElem? (i := 88) rfl))) (Or.inr (hw _ (List.mem_of_getElem? (i := 84) rfl))) (by decide) (t := .int) (t' := (.object "java/lang/String")) (by decide) (by decide)))
  have f11 := F3.other W5 (Or.inr (slot_ne (Or.inr (hw _ (List.mem_of_getElem? (i := 90) rfl))) (Or.inr (hw _ (List.mem_of_getElem? (i := 84) rfl))) (by decide) (t := .int) (t' := (.object "java/lang/String")) (by decide) (by decide)))
  have f12 := F4.other W5 (Or.inr (slot_ne (Or.inr (hw _ (List.mem_of_getElem? (i := 92) rfl))) (Or.inr (hw _ (List.mem_of_getElem? (i := 84) rfl))) (by decide) (t := .int) (t' := (.object "java/lang/String")) (by decide) (by decide)))
  have f13 := F5.other W5 (Or.inr (slot_ne (Or.inr (hw _ (List.mem_of_getElem? (i := 94) rfl))) (Or.inr (hw _ (List.mem_of_getElem? (i := 84) rfl))) (by decide) (t := (.object "com/example/conq/conq/model/DeadLettering")) (t' := (.object "java/lang/String")) (by decide) (by decide)))
  have Z14 : n0 ≤ h5.size := Nat.le_trans Z0 (Keep.of_wr W5).1
  have KP15 : Keep h0 h5 [a1] := KP0.wr W5 (Or.inl (List.mem_of_getElem? (i := 0) rfl))
  have N16 := Fr.snoc X5 N0 g1
  have K17 : ∀ t, Steps p.tables e below (T5.setTop (mkF m 11 #[.val (.ref a1), .val (.ref r2), .val (.ref r3), .val (.int p4), .val (.int p5), .val (.int p6), .val .null] [(.ref r3), (.ref a1)])) t → Steps p.tables e below G t := by
    intro t k
    refine K6 t ?_
    show Steps p.tables e below (T5.setTop (mkF m 9 #[.val (.ref a1), .val (.ref r2), .val (.ref r3), .val (.int p4), .val (.int p5), .val (.int p6), .val .null] [])) _
    refine XS.aloadN X5.here hx rfl (hb hby d15_9) rfl rfl ?_
    show Steps p.tables e below (T5.setTop (mkF m 10 #[.val (.ref a1), .val (.ref r2), .val (.ref r3), .val (.int p4), .val (.int p5), .val (.int p6), .val .null] [(.ref a1)])) _
    refine XS.aloadN X5.here hx rfl (hb hby d15_10) rfl rfl ?_
    show Steps p.tables e below (T5.setTop (mkF m 11 #[.val (.ref a1), .val (.ref r2), .val (.ref r3), .val (.int p4), .val (.int p5), .val (.int p6), .val .null] [(.ref r3), (.ref a1)])) _
    exact k
  obtain ⟨T18, h18, X18, e18, W18, st18⟩ := putF X5 hx hZ hown (host := "") (Or.inl (hw _ (List.mem_of_getElem? (i := 85) rfl))) Via.refl e5 f9 f7 (Or.inr ⟨(hw _ (List.mem_of_getElem? (i := 86) rfl)), rfl, hnm⟩) (hw _ (List.mem_of_getElem? (i := 74) rfl)) (ty := (.object "java/lang/String")) (by decide) rfl rfl (g := (mkF m 11 #[.val (.ref a1), .val (.ref r2), .val (.ref r3), .val (.int p4), .val (.int p5), .val (.int p6), .val .null] [(.ref r3), (.ref a1)])) rfl rfl (hb hby d15_11)
  have K19 : ∀ t, Steps p.tables e below (T18.setTop (mkF m 14 #[.val (.ref a1), .val (.ref r2), .val (.ref r3), .val (.int p4), .val (.int p5), .val (.int p6), .val .null] [])) t → Steps p.tables e below G t := fun t k => K17 t (st18 t k)
  have f20 := f7.wr W18
  have f21 := f8.other W18 (Or.inr (slot_ne (Or.inr (hw _ (List.mem_of_getElem? (i := 84) rfl))) (Or.inr (hw _ (List.mem_of_getElem? (i := 86) rfl))) (by decide) (t := (.object "java/lang/String")) (t' := (.object "java/lang/String")) (by decide) (by decide)))
  have f22 := f9.same W18
  have f23 := f10.other W18 (Or.inr (slot_ne (Or.inr (hw _ (List.mem_of_getElem? (i := 88) rfl))) (Or.inr (hw _ (List.mem_of_getElem? (i := 86) rfl))) (by decide) (t := .int) (t' := (.object "java/lang/String")) (by decide) (by decide)))
  have f24 := f11.other W18 (Or.inr (slot_ne (Or.inr (hw _ (List.mem_of_getElem? (i := 90) rfl))) (Or.inr (hw _ (List.mem_of_getElem? (i := 86) rfl))) (by decide) (t := .int) (t' := (.object "java/lang/String")) (by decide) (by decide)))
  have f25 := f12.other W18 (Or.inr (slot_ne (Or.inr (hw _ (List.mem_of_getElem? (i := 92) rfl))) (Or.inr (hw _ (List.mem_of_getElem? (i := 86) rfl))) (by decide) (t := .int) (t' := (.object "java/lang/String")) (by decide) (by decide)))
  have f26 := f13.other W18 (Or.inr (slot_ne (Or.inr (hw _ (List.mem_of_getElem? (i := 94) rfl))) (Or.inr (hw _ (List.mem_of_getElem? (i := 86) rfl))) (by decide) (t := (.object "com/example/conq/conq/model/DeadLettering")) (t' := (.object "java/lang/String")) (by decide) (by decide)))
  have Z27 : n0 ≤ h18.size := Nat.le_trans Z14 (Keep.of_wr W18).1
  have KP28 : Keep h0 h18 [a1] := KP15.wr W18 (Or.inl (List.mem_of_getElem? (i := 0) rfl))
  have N29 := Fr.snoc X18 N16 g1
  have K30 : ∀ t, Steps p.tables e below (T18.setTop (mkF m 16 #[.val (.ref a1), .val (.ref r2), .val (.ref r3), .val (.int p4), .val (.int p5), .val (.int p6), .val .null] [(.int p4), (.ref a1)])) t → Steps p.tables e below G t := by
    intro t k
    refine K19 t ?_
    show Steps p.tables e below (T18.setTop (mkF m 14 #[.val (.ref a1), .val (.ref r2), .val (.ref r3), .val (.int p4), .val (.int p5), .val (.int p6), .val .null] [])) _
    refine XS.aloadN X18.here hx rfl (hb hby d15_14) rfl rfl ?_
    show Steps p.tables e below (T18.setTop (mkF m 15 #[.val (.ref a1), .val (.ref r2), .val (.ref r3), .val (.int p4), .val (.int p5), .val (.int p6), .val .null] [(.ref a1)])) _
    refine XS.iloadN X18.here hx rfl (hb hby d15_15) rfl ?_
    show Steps p.tables e below (T18.setTop (mkF m 16 #[.val (.ref a1), .val (.ref r2), .val (.ref r3), .val (.int p4), .val (.int p5), .val (.int p6), .val .null] [(.int p4), (.ref a1)])) _
    exact k
  obtain ⟨T31, h31, X31, e31, W31, st31⟩ := putF X18 hx hZ hown (host := "") (Or.inl (hw _ (List.mem_of_getElem? (i := 87) rfl))) Via.refl e18 f23 f20 (Or.inr ⟨(hw _ (List.mem_of_getElem? (i := 88) rfl)), rfl, hnm⟩) (hw _ (List.mem_of_getElem? (i := 74) rfl)) (ty := .int) (by decide) rfl rfl (g := (mkF m 16 #[.val (.ref a1), .val (.ref r2), .val (.ref r3), .val (.int p4), .val (.int p5), .val (.int p6), .val .null] [(.int p4), (.ref a1)])) rfl rfl (hb hby d15_16)
  have K32 : ∀ t, Steps p.tables e below (T31.setTop (mkF m 19 #[.val (.ref a1), .val (.ref r2), .val (.ref r3), .val (.int p4), .val (.int p5), .val (.int p6), .val .null] [])) t → Steps p.tables e below G t := fun t k => K30 t (st31 t k)
  have f33 := f20.wr W31
  have f34 := f21.other W31 (Or.inr (slot_ne (Or.inr (hw _ (List.mem_of_getElem? (i := 84) rfl))) (Or.inr (hw _ (List.mem_of_getElem? (i := 88) rfl))) (by decide) (t := (.object "java/lang/String")) (t' := .int) (by decide) (by decide)))
  have f35 := f22.other W31 (Or.inr (slot_ne (Or.inr (hw _ (List.mem_of_getElem? (i := 86) rfl))) (Or.inr (hw _ (List.mem_of_getElem? (i := 88) rfl))) (by decide) (t := (.object "java/lang/String")) (t' := .int) (by decide) (by decide)))
  have f36 := f23.same W31
  have f37 := f24.other W31 (Or.inr (slot_ne (Or.inr (hw _ (List.mem_of_getElem? (i := 90) rfl))) (Or.inr (hw _ (List.mem_of_getElem? (i := 88) rfl))) (by decide) (t := .int) (t' := .int) (by decide) (by decide)))
  have f38 := f25.other W31 (Or.inr (slot_ne (Or.inr (hw _ (List.mem_of_getElem? (i := 92) rfl))) (Or.inr (hw _ (List.mem_of_getElem? (i := 88) rfl))) (by decide) (t := .int) (t' := .int) (by decide) (by decide)))
  have f39 := f26.other W31 (Or.inr (slot_ne (Or.inr (hw _ (List.mem_of_getElem? (i := 94) rfl))) (Or.inr (hw _ (List.mem_of_getElem? (i := 88) rfl))) (by decide) (t := (.object "com/example/conq/conq/model/DeadLettering")) (t' := .int) (by decide) (by decide)))
  have Z40 : n0 ≤ h31.size := Nat.le_trans Z27 (Keep.of_wr W31).1
  have KP41 : Keep h0 h31 [a1] := KP28.wr W31 (Or.inl (List.mem_of_getElem? (i := 0) rfl))
  have N42 := Fr.snoc X31 N29 g1
  have K43 : ∀ t, Steps p.tables e below (T31.setTop (mkF m 22 #[.val (.ref a1), .val (.ref r2), .val (.ref r3), .val (.int p4), .val (.int p5), .val (.int p6), .val .null] [(.int p5), (.ref a1)])) t → Steps p.tables e below G t := by
    intro t k
    refine K32 t ?_
    show Steps p.tables e below (T31.setTop (mkF m 19 #[.val (.ref a1), .val (.ref r2), .val (.ref r3), .val (.int p4), .val (.int p5), .val (.int p6), .val .null] [])) _
    refine XS.aloadN X31.here hx rfl (hb hby d15_19) rfl rfl ?_
    show Steps p.tables e below (T31.setTop (mkF m 20 #[.val (.ref a1), .val (.ref r2), .val (.ref r3), .val (.int p4), .val (.int p5), .val (.int p6), .val .null] [(.ref a1)])) _
    refine XS.iload X31.here hx rfl (hb hby d15_20) rfl ?_
    show Steps p.tables e below (T31.setTop (mkF m 22 #[.val (.ref a1), .val (.ref r2), .val (.ref r3), .val (.int p4), .val (.int p5), .val (.int p6), .val .null] [(.int p5), (.ref a1)])) _
    exact k
  obtain ⟨T44, h44, X44, e44, W44, st44⟩ := putF X31 hx hZ hown (host := "") (Or.inl (hw _ (List.mem_of_getElem? (i := 89) rfl))) Via.refl e31 f37 f33 (Or.inr ⟨(hw _ (List.mem_of_getElem? (i := 90) rfl)), rfl, hnm⟩) (hw _ (List.mem_of_getElem? (i := 74) rfl)) (ty := .int) (by decide) rfl rfl (g := (mkF m 22 #[.val (.ref a1), .val (.ref r2), .val (.ref r3), .val (.int p4), .val (.int p5), .val (.int p6), .val .null] [(.int p5), (.ref a1)])) rfl rfl (hb hby d15_22)
  have K45 : ∀ t, Steps p.tables e below (T44.setTop (mkF m 25 #[.val (.ref a1), .val (.ref r2), .val (.ref r3), .val (.int p4), .val (.int p5), .val (.int p6), .val .null] [])) t → Steps p.tables e below G t := fun t k => K43 t (st44 t k)
  have f46 := f33.wr W44
  have f47 := f34.other W44 (Or.inr (slot_ne (Or.inr (hw _ (List.mem_of_getElem? (i := 84) rfl))) (Or.inr (hw _ (List.mem_of_getElem? (i := 90) rfl))) (by decide) (t := (.object "java/lang/String")) (t' := .int) (by decide) (by decide)))
  have f48 := f35.other W44 (Or.inr (slot_ne (Or.inr (hw _ (List.mem_of_getElem? (i := 86) rfl))) (Or.inr (hw _ (List.mem_of_getElem? (i := 90) rfl))) (by decide) (t := (.object "java/lang/String")) (t' := .int) (by decide) (by decide)))
  have f49 := f36.other W44 (Or.inr (slot_ne (Or.inr (hw _ (List.mem_of_getElem? (i := 88) rfl))) (Or.inr (hw _ (List.mem_of_getElem? (i := 90) rfl))) (by decide) (t := .int) (t' := .int) (by decide) (by decide)))
  have f50 := f37.same W44
  have f51 := f38.other W44 (Or.inr (slot_ne (Or.inr (hw _ (List.mem_of_getElem? (i := 92) rfl))) (Or.inr (hw _ (List.mem_of_getElem? (i := 90) rfl))) (by decide) (t := .int) (t' := .int) (by decide) (by decide)))
  have f52 := f39.other W44 (Or.inr (slot_ne (Or.inr (hw _ (List.mem_of_getElem? (i := 94) rfl))) (Or.inr (hw _ (List.mem_of_getElem? (i := 90) rfl))) (by decide) (t := (.object "com/example/conq/conq/model/DeadLettering")) (t' := .int) (by decide) (by decide)))
  have Z53 : n0 ≤ h44.size := Nat.le_trans Z40 (Keep.of_wr W44).1
  have KP54 : Keep h0 h44 [a1] := KP41.wr W44 (Or.inl (List.mem_of_getElem? (i := 0) rfl))
  have N55 := Fr.snoc X44 N42 g1
  have K56 : ∀ t, Steps p.tables e below (T44.setTop (mkF m 28 #[.val (.ref a1), .val (.ref r2), .val (.ref r3), .val (.int p4), .val (.int p5), .val (.int p6), .val .null] [(.int p6), (.ref a1)])) t → Steps p.tables e below G t := by
    intro t k
    refine K45 t ?_
    show Steps p.tables e below (T44.setTop (mkF m 25 #[.val (.ref a1), .val (.ref r2), .val (.ref r3), .val (.int p4), .val (.int p5), .val (.int p6), .val .null] [])) _
    refine XS.aloadN X44.here hx rfl (hb hby d15_25) rfl rfl ?_
    show Steps p.tables e below (T44.setTop (mkF m 26 #[.val (.ref a1), .val (.ref r2), .val (.ref r3), .val (.int p4), .val (.int p5), .val (.int p6), .val .null] [(.ref a1)])) _
    refine XS.iload X44.here hx rfl (hb hby d15_26) rfl ?_
    show Steps p.tables e below (T44.setTop (mkF m 28 #[.val (.ref a1), .val (.ref r2), .val (.ref r3), .val (.int p4), .val (.int p5), .val (.int p6), .val .null] [(.int p6), (.ref a1)])) _
    exact k
  obtain ⟨T57, h57, X57, e57, W57, st57⟩ := putF X44 hx hZ hown (host := "") (Or.inl (hw _ (List.mem_of_getElem? (i := 91) rfl))) Via.refl e44 f51 f46 (Or.inr ⟨(hw _ (List.mem_of_getElem? (i := 92) rfl)), rfl, hnm⟩) (hw _ (List.mem_of_getElem? (i := 74) rfl)) (ty := .int) (by decide) rfl rfl (g := (mkF m 28 #[.val (.ref a1), .val (.ref r2), .val (.ref r3), .val (.int p4), .val (.int p5), .val (.int p6), .val .null] [(.int p6), (.ref a1)])) rfl rfl (hb hby d15_28)
  have K58 : ∀ t, Steps p.tables e below (T57.setTop (mkF m 31 #[.val (.ref a1), .val (.ref r2), .val (.ref r3), .val (.int p4), .val (.int p5), .val (.int p6), .val .null] [])) t → Steps p.tables e below G t := fun t k => K56 t (st57 t k)
  have f59 := f46.wr W57
  have f60 := f47.other W57 (Or.inr (slot_ne (Or.inr (hw _ (List.mem_of_getElem? (i := 84) rfl))) (Or.inr (hw _ (List.mem_of_getElem? (i := 92) rfl))) (by decide) (t := (.object "java/lang/String")) (t' := .int) (by decide) (by decide)))
  have f61 := f48.other W57 (Or.inr (slot_ne (Or.inr (hw _ (List.mem_of_getElem? (i := 86) rfl))) (Or.inr (hw _ (List.mem_of_getElem? (i := 92) rfl))) (by decide) (t := (.object "java/lang/String")) (t' := .int) (by decide) (by decide)))
  have f62 := f49.other W57 (Or.inr (slot_ne (Or.inr (hw _ (List.mem_of_getElem? (i := 88) rfl))) (Or.inr (hw _ (List.mem_of_getElem? (i := 92) rfl))) (by decide) (t := .int) (t' := .int) (by decide) (by decide)))
  have f63 := f50.other W57 (Or.inr (slot_ne (Or.inr (hw _ (List.mem_of_getElem? (i := 90) rfl))) (Or.inr (hw _ (List.mem_of_getElem? (i := 92) rfl))) (by decide) (t := .int) (t' := .int) (by decide) (by decide)))
  have f64 := f51.same W57
  have f65 := f52.other W57 (Or.inr (slot_ne (Or.inr (hw _ (List.mem_of_getElem? (i := 94) rfl))) (Or.inr (hw _ (List.mem_of_getElem? (i := 92) rfl))) (by decide) (t := (.object "com/example/conq/conq/model/DeadLettering")) (t' := .int) (by decide) (by decide)))
  have Z66 : n0 ≤ h57.size := Nat.le_trans Z53 (Keep.of_wr W57).1
  have KP67 : Keep h0 h57 [a1] := KP54.wr W57 (Or.inl (List.mem_of_getElem? (i := 0) rfl))
  have N68 := Fr.snoc X57 N55 g1
  have K69 : ∀ t, Steps p.tables e below (T57.setTop (mkF m 34 #[.val (.ref a1), .val (.ref r2), .val (.ref r3), .val (.int p4), .val (.int p5), .val (.int p6), .val .null] [.null, (.ref a1)])) t → Steps p.tables e below G t := by
    intro t k
    refine K58 t ?_
    show Steps p.tables e below (T57.setTop (mkF m 31 #[.val (.ref a1), .val (.ref r2), .val (.ref r3), .val (.int p4), .val (.int p5), .val (.int p6), .val .null] [])) _
    refine XS.aloadN X57.here hx rfl (hb hby d15_31) rfl rfl ?_
    show Steps p.tables e below (T57.setTop (mkF m 32 #[.val (.ref a1), .val (.ref r2), .val (.ref r3), .val (.int p4), .val (.int p5), .val (.int p6), .val .null] [(.ref a1)])) _
    refine XS.aload X57.here hx rfl (hb hby d15_32) rfl rfl ?_
    show Steps p.tables e below (T57.setTop (mkF m 34 #[.val (.ref a1), .val (.ref r2), .val (.ref r3), .val (.int p4), .val (.int p5), .val (.int p6), .val .null] [.null, (.ref a1)])) _
    exact k
  obtain ⟨T70, h70, X70, e70, W70, st70⟩ := putF X57 hx hZ hown (host := "") (Or.inl (hw _ (List.mem_of_getElem? (i := 93) rfl))) Via.refl e57 f65 f59 (Or.inr ⟨(hw _ (List.mem_of_getElem? (i := 94) rfl)), rfl, hnm⟩) (hw _ (List.mem_of_getElem? (i := 74) rfl)) (ty := (.object "com/example/conq/conq/model/DeadLettering")) (by decide) rfl rfl (g := (mkF m 34 #[.val (.ref a1), .val (.ref r2), .val (.ref r3), .val (.int p4), .val (.int p5), .val (.int p6), .val .null] [.null, (.ref a1)])) rfl rfl (hb hby d15_34)
  have K71 : ∀ t, Steps p.tables e below (T70.setTop (mkF m 37 #[.val (.ref a1), .val (.ref r2), .val (.ref r3), .val (.int p4), .val (.int p5), .val (.int p6), .val .null] [])) t → Steps p.tables e below G t := fun t k => K69 t (st70 t k)
  have f72 := f59.wr W70
  have f73 := f60.other W70 (Or.inr (slot_ne (Or.inr (hw _ (List.mem_of_getElem? (i := 84) rfl))) (Or.inr (hw _ (List.mem_of_getElem? (i := 94) rfl))) (by decide) (t := (.object "java/lang/String")) (t' := (.object "com/example/conq/conq/model/DeadLettering")) (by decide) (by decide)))
  have f74 := f61.other W70 (Or.inr (slot_ne (Or.inr (hw _ (List.mem_of_getElem? (i := 86) rfl))) (Or.inr (hw _ (List.mem_of_getElem? (i := 94) rfl))) (by decide) (t := (.object "java/lang/String")) (t' := (.object "com/example/conq/conq/model/DeadLettering")) (by decide) (by decide)))
  have f75 := f62.other W70 (Or.inr (slot_ne (Or.inr (hw _ (List.mem_of_getElem? (i := 88) rfl))) (Or.inr (hw _ (List.mem_of_getElem? (i := 94) rfl))) (by decide) (t := .int) (t' := (.object "com/example/conq/conq/model/DeadLettering")) (by decide) (by decide)))
  have f76 := f63.other W70 (Or.inr (slot_ne (Or.inr (hw _ (List.mem_of_getElem? (i := 90) rfl))) (Or.inr (hw _ (List.mem_of_getElem? (i := 94) rfl))) (by decide) (t := .int) (t' := (.object "com/example/conq/conq/model/DeadLettering")) (by decide) (by decide)))
  have f77 := f64.other W70 (Or.inr (slot_ne (Or.inr (hw _ (List.mem_of_getElem? (i := 92) rfl))) (Or.inr (hw _ (List.mem_of_getElem? (i := 94) rfl))) (by decide) (t := .int) (t' := (.object "com/example/conq/conq/model/DeadLettering")) (by decide) (by decide)))
  have f78 := f65.same W70
  have Z79 : n0 ≤ h70.size := Nat.le_trans Z66 (Keep.of_wr W70).1
  have KP80 : Keep h0 h70 [a1] := KP67.wr W70 (Or.inl (List.mem_of_getElem? (i := 0) rfl))
  have N81 := Fr.snoc X70 N68 g1
  obtain ⟨fs, hr, hrun, hended, hW, hsame⟩ := X70.leave (v := none) (fun _ => rfl)
  have KF := K71
  rw [hG] at KF
  refine ⟨_, _, KF _ ?_, hrun, hended, _, _, rfl, ?_, ⟨_, rfl⟩, hW, hsame.mono (by decide) (by decide)⟩
  · show Steps p.tables e below (T70.setTop (mkF m 37 #[.val (.ref a1), .val (.ref r2), .val (.ref r3), .val (.int p4), .val (.int p5), .val (.int p6), .val .null] [])) _
    exact X70.returnOut hx Bd.returns (hb hby d15_37) hr
  · show Q15 Z a1 h0 n0 _ T70.heap _
    rw [e70]
    exact ⟨rfl, N81, KP80, f72⟩
def Q14 (Z : State) (a1 : Addr) (h0 : Heap) (n0 : Nat) (v : Option Value) (h : Heap) (L : List Loc) : Prop := v = none ∧ Fr n0 L ∧ Keep h0 h [a1] ∧ Exa Z h a1 "com/example/conq/conq/model/PopRequest"
theorem d14_0 : decode prog_29_method_1_code 0 = .ok (.aload_n 0, 1) := by decide +kernel
theorem d14_1 : decode prog_29_method_1_code 1 = .ok (.aload_n 1, 1) := by decide +kernel
theorem d14_2 : decode prog_29_method_1_code 2 = .ok (.aload_n 2, 1) := by decide +kernel
theorem d14_3 : decode prog_29_method_1_code 3 = .ok (.iload_n 3, 1) := by decide +kernel
theorem d14_4 : decode prog_29_method_1_code 4 = .ok (.iload 4, 2) := by decide +kernel
theorem d14_6 : decode prog_29_method_1_code 6 = .ok (.iload 5, 2) := by decide +kernel
theorem d14_8 : decode prog_29_method_1_code 8 = .ok (.aconst_null, 1) := by decide +kernel
theorem d14_9 : decode prog_29_method_1_code 9 = .ok (.invokespecial 1, 3) := by decide +kernel
theorem d14_12 : decode prog_29_method_1_code 12 = .ok (.return_, 1) := by decide +kernel
theorem pd_6 : parseMethodDescriptor "(Ljava/lang/String;Ljava/lang/String;IIILcom/example/conq/conq/model/DeadLettering;)V" = some ⟨[(.object "java/lang/String"), (.object "java/lang/String"), .int, .int, .int, (.object "com/example/conq/conq/model/DeadLettering")], none⟩ := by decide +kernel
theorem ef_rm14 (m : MethodId) (x0 : Addr) (x1 : Addr) (x2 : Addr) (x3 : Int32) (x4 : Int32) (x5 : Int32) : entryFrame m #[(.ref x0), (.ref x1), (.ref x2), (.int x3), (.int x4), (.int x5)] 6 = mkF m 0 #[.val (.ref x0), .val (.ref x1), .val (.ref x2), .val (.int x3), .val (.int x4), .val (.int x5)] [] := by first | (simp [entryFrame, mkF, argsToLocals, Value.category]; done) | rfl
set_option maxRecDepth 65536 in
set_option maxHeartbeats 40000000 in
theorem rm14 (l : Launch) (Z : State) (a0 : Array Value) (hw : ∀ d ∈ tables_1, d.before a0 Z = true) (ws : List Jvm.Cond) (a1 r2 r3 : Addr) (p4 p5 p6 : Int32) (h0 : Heap) (n0 : Nat) (Z0 : n0 ≤ h0.size) (E1 : Exa Z h0 a1 "com/example/conq/conq/model/PopRequest") (F0 : Fld Z h0 a1 "com/example/conq/conq/model/PopRequest" "group" "Ljava/lang/String;" .null) (F1 : Fld Z h0 a1 "com/example/conq/conq/model/PopRequest" "partition" "Ljava/lang/String;" .null) (F2 : Fld Z h0 a1 "com/example/conq/conq/model/PopRequest" "batch" "I" (.int (0 : Int32))) (F3 : Fld Z h0 a1 "com/example/conq/conq/model/PopRequest" "leaseSeconds" "I" (.int (0 : Int32))) (F4 : Fld Z h0 a1 "com/example/conq/conq/model/PopRequest" "waitMs" "I" (.int (0 : Int32))) (F5 : Fld Z h0 a1 "com/example/conq/conq/model/PopRequest" "deadLettering" "Lcom/example/conq/conq/model/DeadLettering;" .null) (g1 : n0 ≤ a1) :
    MetFree l (⟨"com/example/conq/conq/model/PopRequest", "<init>", "(Ljava/lang/String;Ljava/lang/String;III)V"⟩ : MethodName) (head1 (Jvm.Cond.code (⟨"com/example/conq/conq/model/PopRequest", "<init>", "(Ljava/lang/String;Ljava/lang/String;III)V"⟩ : MethodName) prog_29_method_1_code 6 none :: ws) ({ frames := 2, cells := 0, slots := 0, locals := 30 } : Room)) (fun a U => a = #[(.ref a1), (.ref r2), (.ref r3), (.int p4), (.int p5), (.int p6)] ∧ Z.Warmed39 U.vm ∧ U.heap = h0) (fun _ _ _ _ _ => True) (fun _ U o U' => ∃ v L, o = .returned v ∧ Q14 Z a1 h0 n0 v U'.heap L ∧ FrameEnd U o U' L ({ frames := 2, cells := 0, slots := 0, locals := 30 } : Room).cells ({ frames := 2, cells := 0, slots := 0, locals := 30 } : Room).slots) := by
  refine MetFree.of_bodySF (plainFor_of_name pn_com_example_conq_conq_model_PopRequest) hisR ?_
  intro p e s m args below meth c s₁ Bd hml0 hP hK
  obtain ⟨rfl, hZ, hh⟩ := hP
  have hx := Bd.exec
  have hby := Bd.bytes
  have hml : c.maxLocals = 6 := hml0
  have hown : s.vm.findClass "com/example/conq/conq/model/PopRequest" = some m.cls := findClass_of_methodNamed Bd.named
  have hnm := (name_of_methodNamed Bd.named Bd.method).1
  have X0 : Stand p l e ({ frames := 2, cells := 0, slots := 0, locals := 30 } : Room) s m #[(.ref a1), (.ref r2), (.ref r3), (.int p4), (.int p5), (.int p6)] below meth c s₁ [] 0 0 := Stand.of_body Bd
  have e0 : s₁.heap = h0 := by rw [← hh, Bd.state]; rfl
  have N0 := Fr.nil n0
  have KP0 : Keep h0 h0 [a1] := Keep.refl h0 _
  obtain ⟨G, hG⟩ : ∃ G : State, G = s₁.setTop (entryFrame m #[(.ref a1), (.ref r2), (.ref r3), (.int p4), (.int p5), (.int p6)] 6) := ⟨_, rfl⟩
  have pre0 : ∀ t, Steps p.tables e below (s₁.setTop (mkF m 0 #[.val (.ref a1), .val (.ref r2), .val (.ref r3), .val (.int p4), .val (.int p5), .val (.int p6)] [])) t → Steps p.tables e below G t := fun t k => hG ▸ castTop (ef_rm14 m a1 r2 r3 p4 p5 p6) k
  have K1 : ∀ t, Steps p.tables e below (s₁.setTop (mkF m 9 #[.val (.ref a1), .val (.ref r2), .val (.ref r3), .val (.int p4), .val (.int p5), .val (.int p6)] [.null, (.int p6), (.int p5), (.int p4), (.ref r3), (.ref r2), (.ref a1)])) t → Steps p.tables e below G t := by
    intro t k
    refine pre0 t ?_
    show Steps p.tables e below (s₁.setTop (mkF m 0 #[.val (.ref a1), .val (.ref r2), .val (.ref r3), .val (.int p4), .val (.int p5), .val (.int p6)] [])) _
    refine XS.aloadN X0.here hx rfl (hb hby d14_0) rfl rfl ?_
    show Steps p.tables e below (s₁.setTop (mkF m 1 #[.val (.ref a1), .val (.ref r2), .val (.ref r3), .val (.int p4), .val (.int p5), .val (.int p6)] [(.ref a1)])) _
    refine XS.aloadN X0.here hx rfl (hb hby d14_1) rfl rfl ?_
    show Steps p.tables e below (s₁.setTop (mkF m 2 #[.val (.ref a1), .val (.ref r2), .val (.ref r3), .val (.int p4), .val (.int p5), .val (.int p6)] [(.ref r2), (.ref a1)])) _
    refine XS.aloadN X0.here hx rfl (hb hby d14_2) rfl rfl ?_
    show Steps p.tables e below (s₁.setTop (mkF m 3 #[.val (.ref a1), .val (.ref r2), .val (.ref r3), .val (.int p4), .val (.int p5), .val (.int p6)] [(.ref r3), (.ref r2), (.ref a1)])) _
    refine XS.iloadN X0.here hx rfl (hb hby d14_3) rfl ?_
    show Steps p.tables e below (s₁.setTop (mkF m 4 #[.val (.ref a1), .val (.ref r2), .val (.ref r3), .val (.int p4), .val (.int p5), .val (.int p6)] [(.int p4), (.ref r3), (.ref r2), (.ref a1)])) _
    refine XS.iload X0.here hx rfl (hb hby d14_4) rfl ?_
    show Steps p.tables e below (s₁.setTop (mkF m 6 #[.val (.ref a1), .val (.ref r2), .val (.ref r3), .val (.int p4), .val (.int p5), .val (.int p6)] [(.int p5), (.int p4), (.ref r3), (.ref r2), (.ref a1)])) _
    refine XS.iload X0.here hx rfl (hb hby d14_6) rfl ?_
    show Steps p.tables e below (s₁.setTop (mkF m 8 #[.val (.ref a1), .val (.ref r2), .val (.ref r3), .val (.int p4), .val (.int p5), .val (.int p6)] [(.int p6), (.int p5), (.int p4), (.ref r3), (.ref r2), (.ref a1)])) _
    refine XS.aconstNull X0.here hx rfl (hb hby d14_8) ?_
    show Steps p.tables e below (s₁.setTop (mkF m 9 #[.val (.ref a1), .val (.ref r2), .val (.ref r3), .val (.int p4), .val (.int p5), .val (.int p6)] [.null, (.int p6), (.int p5), (.int p4), (.ref r3), (.ref r2), (.ref a1)])) _
    exact k
  obtain ⟨_, _, ⟨T2, L2, kk2, nn2⟩, -, X2, ⟨Lc2, hQ2, lq2, yq2, zq2⟩, st2⟩ := X0.specialBack hx (y := (⟨"com/example/conq/conq/model/PopRequest", "<init>", "(Ljava/lang/String;Ljava/lang/String;IIILcom/example/conq/conq/model/DeadLettering;)V"⟩ : MethodName)) rfl hown (mvT hZ (hw _ (List.mem_of_getElem? (i := 79) rfl))) (mvT hZ (hw _ (List.mem_of_getElem? (i := 80) rfl))) (mvT hZ (hw _ (List.mem_of_getElem? (i := 81) rfl))) (by decide) (backOf (W := 0) (rm15 l Z a0 hw [] a1 r2 r3 p4 p5 p6 h0 n0 Z0 E1 F0 F1 F2 F3 F4 F5 g1) hZ (hw _ (List.mem_of_getElem? (i := 81) rfl)) (hw _ (List.mem_of_getElem? (i := 75) rfl)) (by decide) (by decide)) (g := (mkF m 9 #[.val (.ref a1), .val (.ref r2), .val (.ref r3), .val (.int p4), .val (.int p5), .val (.int p6)] [.null, (.int p6), (.int p5), (.int p4), (.ref r3), (.ref r2), (.ref a1)])) rfl (by rw [hml]; rfl) (Steps.refl _) (a := a1) (argsL := [(.ref r2), (.ref r3), (.int p4), (.int p5), (.int p6), .null]) (rest := []) (lenOf pd_6 rfl) rfl (by show 2 * 0 + _ ≤ _; exact Nat.le_of_eq rfl) (hb hby d14_9) (fun _ _ => ⟨rfl, e0, (by decide : 0 + 0 ≤ _), (by decide : 0 + 0 ≤ _)⟩)
  dsimp only [Pt.U, Pt.locs, Pt.cells, Pt.slots] at X2 lq2 yq2 zq2 st2 hQ2
  subst lq2 yq2 zq2
  obtain ⟨rfl, Nq2, K2, E2'⟩ := hQ2
  have N3 := Fr.app N0 Nq2
  have f4 := E1.keep K2
  have Z5 : n0 ≤ T2.heap.size := Nat.le_trans Z0 K2.1
  have KP6 : Keep h0 T2.heap [a1] := KP0.trans K2 (allS (Or.inl (List.mem_of_getElem? (i := 0) rfl)) all0)
  have K7 : ∀ t, Steps p.tables e below (T2.setTop (mkF m 12 #[.val (.ref a1), .val (.ref r2), .val (.ref r3), .val (.int p4), .val (.int p5), .val (.int p6)] [])) t → Steps p.tables e below G t := fun t k => K1 t (st2.trans k)
  obtain ⟨fs, hr, hrun, hended, hW, hsame⟩ := X2.leave (v := none) (fun _ => rfl)
  have KF := K7
  rw [hG] at KF
  refine ⟨_, _, KF _ ?_, hrun, hended, _, _, rfl, ?_, ⟨_, rfl⟩, hW, hsame.mono (by decide) (by decide)⟩
  · show Steps p.tables e below (T2.setTop (mkF m 12 #[.val (.ref a1), .val (.ref r2), .val (.ref r3), .val (.int p4), .val (.int p5), .val (.int p6)] [])) _
    exact X2.returnOut hx Bd.returns (hb hby d14_12) hr
  · show Q14 Z a1 h0 n0 _ T2.heap _
    exact ⟨rfl, N3, KP6, E2'⟩
def Q11_n (h0 : Heap) (n0 : Nat) (v : Option Value) (h : Heap) (L : List Loc) : Prop := v = some (.int (0 : Int32)) ∧ Fr n0 L ∧ h = h0
theorem d11_0 : decode prog_19_method_7_code 0 = .ok (.aload_n 1, 1) := by decide +kernel
theorem d11_1 : decode prog_19_method_7_code 1 = .ok (.instanceof 8, 3) := by decide +kernel
theorem d11_4 : decode prog_19_method_7_code 4 = .ok (.ifCond .ne 5, 3) := by decide +kernel
theorem d11_7 : decode prog_19_method_7_code 7 = .ok (.iconst 0, 1) := by decide +kernel
theorem d11_8 : decode prog_19_method_7_code 8 = .ok (.ireturn, 1) := by decide +kernel
theorem d11_9 : decode prog_19_method_7_code 9 = .ok (.aload_n 1, 1) := by decide +kernel
theorem d11_10 : decode prog_19_method_7_code 10 = .ok (.checkcast 8, 3) := by decide +kernel
theorem d11_13 : decode prog_19_method_7_code 13 = .ok (.astore_n 2, 1) := by decide +kernel
theorem d11_14 : decode prog_19_method_7_code 14 = .ok (.aload_n 0, 1) := by decide +kernel
theorem d11_15 : decode prog_19_method_7_code 15 = .ok (.getfield 7, 3) := by decide +kernel
theorem d11_18 : decode prog_19_method_7_code 18 = .ok (.aload_n 2, 1) := by decide +kernel
theorem d11_19 : decode prog_19_method_7_code 19 = .ok (.getfield 7, 3) := by decide +kernel
theorem d11_22 : decode prog_19_method_7_code 22 = .ok (.invokevirtual 23, 3) := by decide +kernel
theorem d11_25 : decode prog_19_method_7_code 25 = .ok (.ifCond .eq 35, 3) := by decide +kernel
theorem d11_28 : decode prog_19_method_7_code 28 = .ok (.aload_n 0, 1) := by decide +kernel
theorem d11_29 : decode prog_19_method_7_code 29 = .ok (.getfield 13, 3) := by decide +kernel
theorem d11_32 : decode prog_19_method_7_code 32 = .ok (.aload_n 2, 1) := by decide +kernel
theorem d11_33 : decode prog_19_method_7_code 33 = .ok (.getfield 13, 3) := by decide +kernel
theorem d11_36 : decode prog_19_method_7_code 36 = .ok (.invokevirtual 23, 3) := by decide +kernel
theorem d11_39 : decode prog_19_method_7_code 39 = .ok (.ifCond .eq 21, 3) := by decide +kernel
theorem d11_42 : decode prog_19_method_7_code 42 = .ok (.aload_n 0, 1) := by decide +kernel
theorem d11_43 : decode prog_19_method_7_code 43 = .ok (.getfield 16, 3) := by decide +kernel
theorem d11_46 : decode prog_19_method_7_code 46 = .ok (.aload_n 2, 1) := by decide +kernel
theorem d11_47 : decode prog_19_method_7_code 47 = .ok (.getfield 16, 3) := by decide +kernel
theorem d11_50 : decode prog_19_method_7_code 50 = .ok (.invokevirtual 23, 3) := by decide +kernel
theorem d11_53 : decode prog_19_method_7_code 53 = .ok (.ifCond .eq 7, 3) := by decide +kernel
theorem d11_56 : decode prog_19_method_7_code 56 = .ok (.iconst 1, 1) := by decide +kernel
theorem d11_57 : decode prog_19_method_7_code 57 = .ok (.goto 4, 3) := by decide +kernel
theorem d11_60 : decode prog_19_method_7_code 60 = .ok (.iconst 0, 1) := by decide +kernel
theorem d11_61 : decode prog_19_method_7_code 61 = .ok (.ireturn, 1) := by decide +kernel
theorem ef_rm11_n (m : MethodId) (x0 : Addr) : entryFrame m #[(.ref x0), .null] 3 = mkF m 0 #[.val (.ref x0), .val .null, .unset] [] := by first | (simp [entryFrame, mkF, argsToLocals, Value.category]; done) | rfl
set_option maxRecDepth 65536 in
set_option maxHeartbeats 40000000 in
theorem rm11_n (l : Launch) (Z : State) (a0 : Array Value) (hw : ∀ d ∈ tables_1, d.before a0 Z = true) (ws : List Jvm.Cond) (a1 : Addr) (h0 : Heap) (n0 : Nat) (Z0 : n0 ≤ h0.size) :
    MetFree l (⟨"com/example/conq/conq/model/GroupPartition", "equals", "(Ljava/lang/Object;)Z"⟩ : MethodName) (head1 (Jvm.Cond.code (⟨"com/example/conq/conq/model/GroupPartition", "equals", "(Ljava/lang/Object;)Z"⟩ : MethodName) prog_19_method_7_code 3 (some .boolean) :: ws) ({ frames := 0, cells := 0, slots := 0, locals := 0 } : Room)) (fun a U => a = #[(.ref a1), .null] ∧ Z.Warmed39 U.vm ∧ U.heap = h0) (fun _ _ _ _ _ => True) (fun _ U o U' => ∃ v L, o = .returned v ∧ Q11_n h0 n0 v U'.heap L ∧ FrameEnd U o U' L ({ frames := 0, cells := 0, slots := 0, locals := 0 } : Room).cells ({ frames := 0, cells := 0, slots := 0, locals := 0 } : Room).slots) := by
  refine MetFree.of_bodySF (plainFor_of_name pn_com_example_conq_conq_model_GroupPartition) hisR ?_
  intro p e s m args below meth c s₁ Bd hml0 hP hK
  obtain ⟨rfl, hZ, hh⟩ := hP
  have hx := Bd.exec
  have hby := Bd.bytes
  have hml : c.maxLocals = 3 := hml0
  have hown : s.vm.findClass "com/example/conq/conq/model/GroupPartition" = some m.cls := findClass_of_methodNamed Bd.named
  have hnm := (name_of_methodNamed Bd.named Bd.method).1
  have X0 : Stand p l e ({ frames := 0, cells := 0, slots := 0, locals := 0 } : Room) s m #[(.ref a1), .null] below meth c s₁ [] 0 0 := Stand.of_body Bd
  have e0 : s₁.heap = h0 := by rw [← hh, Bd.state]; rfl
  have N0 := Fr.nil n0
  have KP0 : Keep h0 h0 [] := Keep.refl h0 _
  obtain ⟨G, hG⟩ : ∃ G : State, G = s₁.setTop (entryFrame m #[(.ref a1), .null] 3) := ⟨_, rfl⟩
  have pre0 : ∀ t, Steps p.tables e below (s₁.setTop (mkF m 0 #[.val (.ref a1), .val .null, .unset] [])) t → Steps p.tables e below G t := fun t k => hG ▸ castTop (ef_rm11_n m a1) k
  have K1 : ∀ t, Steps p.tables e below (s₁.setTop (mkF m 1 #[.val (.ref a1), .val .null, .unset] [.null])) t → Steps p.tables e below G t := by
    intro t k
    refine pre0 t ?_
    show Steps p.tables e below (s₁.setTop (mkF m 0 #[.val (.ref a1), .val .null, .unset] [])) _
    refine XS.aloadN X0.here hx rfl (hb hby d11_0) rfl rfl ?_
    show Steps p.tables e below (s₁.setTop (mkF m 1 #[.val (.ref a1), .val .null, .unset] [.null])) _
    exact k
  have K3 : ∀ t, Steps p.tables e below (s₁.setTop (mkF m 4 #[.val (.ref a1), .val .null, .unset] [(.int (0 : Int32))])) t → Steps p.tables e below G t := fun t k => K1 t (X0.instanceofNull hx (g := (mkF m 1 #[.val (.ref a1), .val .null, .unset] [.null])) rfl rfl (hb hby d11_1) _ k)
  obtain ⟨fs, hr, hrun, hended, hW, hsame⟩ := X0.leave (v := some (.int (0 : Int32))) (fun h => by rw [Bd.returns] at h; cases h)
  have KF := K3
  rw [hG] at KF
  refine ⟨_, _, KF _ ?_, hrun, hended, _, _, rfl, ?_, ⟨_, rfl⟩, hW, hsame.mono (by decide) (by decide)⟩
  · show Steps p.tables e below (s₁.setTop (mkF m 4 #[.val (.ref a1), .val .null, .unset] [(.int (0 : Int32))])) _
    refine XS.ifNo X0.here hx rfl (hb hby d11_4) rfl ((if0 _ _).trans (teq (by decide)).2) ?_
    show Steps p.tables e below (s₁.setTop (mkF m 7 #[.val (.ref a1), .val .null, .unset] [])) _
    refine XS.iconst X0.here hx rfl (hb hby d11_7) ?_
    show Steps p.tables e below (s₁.setTop (mkF m 8 #[.val (.ref a1), .val .null, .unset] [(.int (0 : Int32))])) _
    exact retN X0 hx (t := .boolean) Bd.returns (by simp) (hb hby d11_8) hr
  · show Q11_n h0 n0 _ s₁.heap _
    rw [e0]
    exact ⟨rfl, N0, rfl⟩
def Q11_s (h0 : Heap) (n0 : Nat) (v : Option Value) (h : Heap) (L : List Loc) : Prop := v = some (.int (0 : Int32)) ∧ Fr n0 L ∧ h = h0
theorem ef_rm11_s (m : MethodId) (x0 : Addr) (x1 : Addr) : entryFrame m #[(.ref x0), (.ref x1)] 3 = mkF m 0 #[.val (.ref x0), .val (.ref x1), .unset] [] := by first | (simp [entryFrame, mkF, argsToLocals, Value.category]; done) | rfl
set_option maxRecDepth 65536 in
set_option maxHeartbeats 40000000 in
theorem rm11_s (l : Launch) (Z : State) (a0 : Array Value) (hw : ∀ d ∈ tables_1, d.before a0 Z = true) (ws : List Jvm.Cond) (a1 : Addr) (a2 : Addr) (h0 : Heap) (n0 : Nat) (Z0 : n0 ≤ h0.size) (E2 : Exa Z h0 a2 "java/lang/String") :
    MetFree l (⟨"com/example/conq/conq/model/GroupPartition", "equals", "(Ljava/lang/Object;)Z"⟩ : MethodName) (head1 (Jvm.Cond.code (⟨"com/example/conq/conq/model/GroupPartition", "equals", "(Ljava/lang/Object;)Z"⟩ : MethodName) prog_19_method_7_code 3 (some .boolean) :: ws) ({ frames := 0, cells := 0, slots := 0, locals := 0 } : Room)) (fun a U => a = #[(.ref a1), (.ref a2)] ∧ Z.Warmed39 U.vm ∧ U.heap = h0) (fun _ _ _ _ _ => True) (fun _ U o U' => ∃ v L, o = .returned v ∧ Q11_s h0 n0 v U'.heap L ∧ FrameEnd U o U' L ({ frames := 0, cells := 0, slots := 0, locals := 0 } : Room).cells ({ frames := 0, cells := 0, slots := 0, locals := 0 } : Room).slots) := by
  refine MetFree.of_bodySF (plainFor_of_name pn_com_example_conq_conq_model_GroupPartition) hisR ?_
  intro p e s m args below meth c s₁ Bd hml0 hP hK
  obtain ⟨rfl, hZ, hh⟩ := hP
  have hx := Bd.exec
  have hby := Bd.bytes
  have hml : c.maxLocals = 3 := hml0
  have hown : s.vm.findClass "com/example/conq/conq/model/GroupPartition" = some m.cls := findClass_of_methodNamed Bd.named
  have hnm := (name_of_methodNamed Bd.named Bd.method).1
  have X0 : Stand p l e ({ frames := 0, cells := 0, slots := 0, locals := 0 } : Room) s m #[(.ref a1), (.ref a2)] below meth c s₁ [] 0 0 := Stand.of_body Bd
  have e0 : s₁.heap = h0 := by rw [← hh, Bd.state]; rfl
  have N0 := Fr.nil n0
  have KP0 : Keep h0 h0 [] := Keep.refl h0 _
  obtain ⟨G, hG⟩ : ∃ G : State, G = s₁.setTop (entryFrame m #[(.ref a1), (.ref a2)] 3) := ⟨_, rfl⟩
  have pre0 : ∀ t, Steps p.tables e below (s₁.setTop (mkF m 0 #[.val (.ref a1), .val (.ref a2), .unset] [])) t → Steps p.tables e below G t := fun t k => hG ▸ castTop (ef_rm11_s m a1 a2) k
  have K1 : ∀ t, Steps p.tables e below (s₁.setTop (mkF m 1 #[.val (.ref a1), .val (.ref a2), .unset] [(.ref a2)])) t → Steps p.tables e below G t := by
    intro t k
    refine pre0 t ?_
    show Steps p.tables e below (s₁.setTop (mkF m 0 #[.val (.ref a1), .val (.ref a2), .unset] [])) _
    refine XS.aloadN X0.here hx rfl (hb hby d11_0) rfl rfl ?_
    show Steps p.tables e below (s₁.setTop (mkF m 1 #[.val (.ref a1), .val (.ref a2), .unset] [(.ref a2)])) _
    exact k
  obtain ⟨T2, X2, e2, st2⟩ := instNo X0 hx hZ hown (hw _ (List.mem_of_getElem? (i := 61) rfl)) e0 E2 (own_noinst (hw _ (List.mem_of_getElem? (i := 97) rfl)) (hw _ (List.mem_of_getElem? (i := 96) rfl)) (hw _ (List.mem_of_getElem? (i := 41) rfl)) (by decide) (by decide)) (g := (mkF m 1 #[.val (.ref a1), .val (.ref a2), .unset] [(.ref a2)])) rfl rfl (hb hby d11_1)
  have K3 : ∀ t, Steps p.tables e below (T2.setTop (mkF m 4 #[.val (.ref a1), .val (.ref a2), .unset] [(.int (0 : Int32))])) t → Steps p.tables e below G t := fun t k => K1 t (st2 t k)
  obtain ⟨fs, hr, hrun, hended, hW, hsame⟩ := X2.leave (v := some (.int (0 : Int32))) (fun h => by rw [Bd.returns] at h; cases h)
  have KF := K3
  rw [hG] at KF
  refine ⟨_, _, KF _ ?_, hrun, hended, _, _, rfl, ?_, ⟨_, rfl⟩, hW, hsame.mono (by decide) (by decide)⟩
  · show Steps p.tables e below (T2.setTop (mkF m 4 #[.val (.ref a1), .val (.ref a2), .unset] [(.int (0 : Int32))])) _
    refine XS.ifNo X2.here hx rfl (hb hby d11_4) rfl ((if0 _ _).trans (teq (by decide)).2) ?_
    show Steps p.tables e below (T2.setTop (mkF m 7 #[.val (.ref a1), .val (.ref a2), .unset] [])) _
    refine XS.iconst X2.here hx rfl (hb hby d11_7) ?_
    show Steps p.tables e below (T2.setTop (mkF m 8 #[.val (.ref a1), .val (.ref a2), .unset] [(.int (0 : Int32))])) _
    exact retN X2 hx (t := .boolean) Bd.returns (by simp) (hb hby d11_8) hr
  · show Q11_s h0 n0 _ T2.heap _
    rw [e2]
    exact ⟨rfl, N0, rfl⟩
def Q11_q (h0 : Heap) (n0 : Nat) (v : Option Value) (h : Heap) (L : List Loc) : Prop := v = some (.int (0 : Int32)) ∧ Fr n0 L ∧ h = h0
theorem ef_rm11_q (m : MethodId) (x0 : Addr) (x1 : Addr) : entryFrame m #[(.ref x0), (.ref x1)] 3 = mkF m 0 #[.val (.ref x0), .val (.ref x1), .unset] [] := by first | (simp [entryFrame, mkF, argsToLocals, Value.category]; done) | rfl
set_option maxRecDepth 65536 in
set_option maxHeartbeats 40000000 in
theorem rm11_q (l : Launch) (Z : State) (a0 : Array Value) (hw : ∀ d ∈ tables_1, d.before a0 Z = true) (ws : List Jvm.Cond) (a1 : Addr) (a2 : Addr) (h0 : Heap) (n0 : Nat) (Z0 : n0 ≤ h0.size) (E2 : Exa Z h0 a2 "com/example/conq/conq/model/PopRequest") :
    MetFree l (⟨"com/example/conq/conq/model/GroupPartition", "equals", "(Ljava/lang/Object;)Z"⟩ : MethodName) (head1 (Jvm.Cond.code (⟨"com/example/conq/conq/model/GroupPartition", "equals", "(Ljava/lang/Object;)Z"⟩ : MethodName) prog_19_method_7_code 3 (some .boolean) :: ws) ({ frames := 0, cells := 0, slots := 0, locals := 0 } : Room)) (fun a U => a = #[(.ref a1), (.ref a2)] ∧ Z.Warmed39 U.vm ∧ U.heap = h0) (fun _ _ _ _ _ => True) (fun _ U o U' => ∃ v L, o = .returned v ∧ Q11_q h0 n0 v U'.heap L ∧ FrameEnd U o U' L ({ frames := 0, cells := 0, slots := 0, locals := 0 } : Room).cells ({ frames := 0, cells := 0, slots := 0, locals := 0 } : Room).slots) := by
  refine MetFree.of_bodySF (plainFor_of_name pn_com_example_conq_conq_model_GroupPartition) hisR ?_
  intro p e s m args below meth c s₁ Bd hml0 hP hK
  obtain ⟨rfl, hZ, hh⟩ := hP
  have hx := Bd.exec
  have hby := Bd.bytes
  have hml : c.maxLocals = 3 := hml0
  have hown : s.vm.findClass "com/example/conq/conq/model/GroupPartition" = some m.cls := findClass_of_methodNamed Bd.named
  have hnm := (name_of_methodNamed Bd.named Bd.method).1
  have X0 : Stand p l e ({ frames := 0, cells := 0, slots := 0, locals := 0 } : Room) s m #[(.ref a1), (.ref a2)] below meth c s₁ [] 0 0 := Stand.of_body Bd
  have e0 : s₁.heap = h0 := by rw [← hh, Bd.state]; rfl
  have N0 := Fr.nil n0
  have KP0 : Keep h0 h0 [] := Keep.refl h0 _
  obtain ⟨G, hG⟩ : ∃ G : State, G = s₁.setTop (entryFrame m #[(.ref a1), (.ref a2)] 3) := ⟨_, rfl⟩
  have pre0 : ∀ t, Steps p.tables e below (s₁.setTop (mkF m 0 #[.val (.ref a1), .val (.ref a2), .unset] [])) t → Steps p.tables e below G t := fun t k => hG ▸ castTop (ef_rm11_q m a1 a2) k
  have K1 : ∀ t, Steps p.tables e below (s₁.setTop (mkF m 1 #[.val (.ref a1), .val (.ref a2), .unset] [(.ref a2)])) t → Steps p.tables e below G t := by
    intro t k
    refine pre0 t ?_
    show Steps p.tables e below (s₁.setTop (mkF m 0 #[.val (.ref a1), .val (.ref a2), .unset] [])) _
    refine XS.aloadN X0.here hx rfl (hb hby d11_0) rfl rfl ?_
    show Steps p.tables e below (s₁.setTop (mkF m 1 #[.val (.ref a1), .val (.ref a2), .unset] [(.ref a2)])) _
    exact k
  obtain ⟨T2, X2, e2, st2⟩ := instNo X0 hx hZ hown (hw _ (List.mem_of_getElem? (i := 61) rfl)) e0 E2 (own_noinst (hw _ (List.mem_of_getElem? (i := 95) rfl)) (hw _ (List.mem_of_getElem? (i := 96) rfl)) (hw _ (List.mem_of_getElem? (i := 41) rfl)) (by decide) (by decide)) (g := (mkF m 1 #[.val (.ref a1), .val (.ref a2), .unset] [(.ref a2)])) rfl rfl (hb hby d11_1)
  have K3 : ∀ t, Steps p.tables e below (T2.setTop (mkF m 4 #[.val (.ref a1), .val (.ref a2), .unset] [(.int (0 : Int32))])) t → Steps p.tables e below G t := fun t k => K1 t (st2 t k)
  obtain ⟨fs, hr, hrun, hended, hW, hsame⟩ := X2.leave (v := some (.int (0 : Int32))) (fun h => by rw [Bd.returns] at h; cases h)
  have KF := K3
  rw [hG] at KF
  refine ⟨_, _, KF _ ?_, hrun, hended, _, _, rfl, ?_, ⟨_, rfl⟩, hW, hsame.mono (by decide) (by decide)⟩
  · show Steps p.tables e below (T2.setTop (mkF m 4 #[.val (.ref a1), .val (.ref a2), .unset] [(.int (0 : Int32))])) _
    refine XS.ifNo X2.here hx rfl (hb hby d11_4) rfl ((if0 _ _).trans (teq (by decide)).2) ?_
    show Steps p.tables e below (T2.setTop (mkF m 7 #[.val (.ref a1), .val (.ref a2), .unset] [])) _
    refine XS.iconst X2.here hx rfl (hb hby d11_7) ?_
    show Steps p.tables e below (T2.setTop (mkF m 8 #[.val (.ref a1), .val (.ref a2), .unset] [(.int (0 : Int32))])) _
    exact retN X2 hx (t := .boolean) Bd.returns (by simp) (hb hby d11_8) hr
  · show Q11_q h0 n0 _ T2.heap _
    rw [e2]
    exact ⟨rfl, N0, rfl⟩
def Q11_d (z1q z2q z1g z2g z1p z2p : Int32) (v1q v2q v1g v2g v1p v2p : List Value) (h0 : Heap) (n0 : Nat) (v : Option Value) (h : Heap) (L : List Loc) : Prop := ∃ r : Int32, v = some (.int r) ∧ Fr n0 L ∧ h = h0 ∧ own_says r (own_same z1q z2q v1q v2q ∧ own_same z1g z2g v1g v2g ∧ own_same z1p z2p v1p v2p)
theorem pd_7 : parseMethodDescriptor "(Ljava/lang/Object;)Z" = some ⟨[(.object "java/lang/Object")], some .boolean⟩ := by decide +kernel
theorem ef_rm11_d (m : MethodId) (x0 : Addr) (x1 : Addr) : entryFrame m #[(.ref x0), (.ref x1)] 3 = mkF m 0 #[.val (.ref x0), .val (.ref x1), .unset] [] := by first | (simp [entryFrame, mkF, argsToLocals, Value.category]; done) | rfl
set_option maxRecDepth 65536 in
set_option maxHeartbeats 40000000 in
theorem rm11_d (l : Launch) (Z : State) (a0 : Array Value) (hw : ∀ d ∈ tables_1, d.before a0 Z = true) (ws : List Jvm.Cond) (a1 a2 r1q r2q b1q b2q r1g r2g b1g b2g r1p r2p b1p b2p : Addr) (k1q k2q k1g k2g k1p k2p : ClassId) (z1q z2q z1g z2g z1p z2p : Int32) (v1q v2q v1g v2g v1p v2p : List Value) (cs : Int32) (h0 : Heap) (n0 : Nat) (Z0 : n0 ≤ h0.size) (E2 : Exa Z h0 a2 "com/example/conq/conq/model/GroupPartition") (F1q : Fld Z h0 a1 "com/example/conq/conq/model/GroupPartition" "queue" "Ljava/lang/String;" (.ref r1q)) (F1g : Fld Z h0 a1 "com/example/conq/conq/model/GroupPartition" "group" "Ljava/lang/String;" (.ref r1g)) (F1p : Fld Z h0 a1 "com/example/conq/conq/model/GroupPartition" "partition" "Ljava/lang/String;" (.ref r1p)) (F2q : Fld Z h0 a2 "com/example/conq/conq/model/GroupPartition" "queue" "Ljava/lang/String;" (.ref r2q)) (F2g : Fld Z h0 a2 "com/example/conq/conq/model/GroupPartition" "group" "Ljava/lang/String;" (.ref r2g)) (F2p : Fld Z h0 a2 "com/example/conq/conq/model/GroupPartition" "partition" "Ljava/lang/String;" (.ref r2p)) (S1q : own_S Z h0 r1q b1q k1q z1q v1q) (S2q : own_S Z h0 r2q b2q k2q z2q v2q) (f1q : own_len z1q v1q) (f2q : own_len z2q v2q) (hqq : r1q = r2q → own_same z1q z2q v1q v2q) (S1g : own_S Z h0 r1g b1g k1g z1g v1g) (S2g : own_S Z h0 r2g b2g k2g z2g v2g) (f1g : own_len z1g v1g) (f2g : own_len z2g v2g) (hqg : r1g = r2g → own_same z1g z2g v1g v2g) (S1p : own_S Z h0 r1p b1p k1p z1p v1p) (S2p : own_S Z h0 r2p b2p k2p z2p v2p) (f1p : own_len z1p v1p) (f2p : own_len z2p v2p) (hqp : r1p = r2p → own_same z1p z2p v1p v2p) (SC : Sta Z Z.heap "java/lang/String" "COMPACT_STRINGS" "Z" (.int cs)) (hcs : ¬ cs = 0) (O0 : Old Z n0 h0) :
    MetFree l (⟨"com/example/conq/conq/model/GroupPartition", "equals", "(Ljava/lang/Object;)Z"⟩ : MethodName) (head1 (Jvm.Cond.code (⟨"com/example/conq/conq/model/GroupPartition", "equals", "(Ljava/lang/Object;)Z"⟩ : MethodName) prog_19_method_7_code 3 (some .boolean) :: ws) ({ frames := 2, cells := 0, slots := 0, locals := 28 } : Room)) (fun a U => a = #[(.ref a1), (.ref a2)] ∧ Z.Warmed39 U.vm ∧ U.heap = h0) (fun _ _ _ _ _ => True) (fun _ U o U' => ∃ v L, o = .returned v ∧ Q11_d z1q z2q z1g z2g z1p z2p v1q v2q v1g v2g v1p v2p h0 n0 v U'.heap L ∧ FrameEnd U o U' L ({ frames := 2, cells := 0, slots := 0, locals := 28 } : Room).cells ({ frames := 2, cells := 0, slots := 0, locals := 28 } : Room).slots) := by
  refine MetFree.of_bodySF (plainFor_of_name pn_com_example_conq_conq_model_GroupPartition) hisR ?_
  intro p e s m args below meth c s₁ Bd hml0 hP hK
  obtain ⟨rfl, hZ, hh⟩ := hP
  have hx := Bd.exec
  have hby := Bd.bytes
  have hml : c.maxLocals = 3 := hml0
  have hown : s.vm.findClass "com/example/conq/conq/model/GroupPartition" = some m.cls := findClass_of_methodNamed Bd.named
  have hnm := (name_of_methodNamed Bd.named Bd.method).1
  have X0 : Stand p l e ({ frames := 2, cells := 0, slots := 0, locals := 28 } : Room) s m #[(.ref a1), (.ref a2)] below meth c s₁ [] 0 0 := Stand.of_body Bd
  have e0 : s₁.heap = h0 := by rw [← hh, Bd.state]; rfl
  have N0 := Fr.nil n0
  have KP0 : Keep h0 h0 [] := Keep.refl h0 _
  obtain ⟨G, hG⟩ : ∃ G : State, G = s₁.setTop (entryFrame m #[(.ref a1), (.ref a2)] 3) := ⟨_, rfl⟩
  have pre0 : ∀ t, Steps p.tables e below (s₁.setTop (mkF m 0 #[.val (.ref a1), .val (.ref a2), .unset] [])) t → Steps p.tables e below G t := fun t k => hG ▸ castTop (ef_rm11_d m a1 a2) k
  have K1 : ∀ t, Steps p.tables e below (s₁.setTop (mkF m 1 #[.val (.ref a1), .val (.ref a2), .unset] [(.ref a2)])) t → Steps p.tables e below G t := by
    intro t k
    refine pre0 t ?_
    show Steps p.tables e below (s₁.setTop (mkF m 0 #[.val (.ref a1), .val (.ref a2), .unset] [])) _
    refine XS.aloadN X0.here hx rfl (hb hby d11_0) rfl rfl ?_
    show Steps p.tables e below (s₁.setTop (mkF m 1 #[.val (.ref a1), .val (.ref a2), .unset] [(.ref a2)])) _
    exact k
  obtain ⟨T2, X2, e2, st2⟩ := instY X0 hx hZ hown (hw _ (List.mem_of_getElem? (i := 61) rfl)) e0 (Ins.self E2) (g := (mkF m 1 #[.val (.ref a1), .val (.ref a2), .unset] [(.ref a2)])) rfl rfl (hb hby d11_1)
  have K3 : ∀ t, Steps p.tables e below (T2.setTop (mkF m 4 #[.val (.ref a1), .val (.ref a2), .unset] [(.int (1 : Int32))])) t → Steps p.tables e below G t := fun t k => K1 t (st2 t k)
  have K4 : ∀ t, Steps p.tables e below (T2.setTop (mkF m 10 #[.val (.ref a1), .val (.ref a2), .unset] [(.ref a2)])) t → Steps p.tables e below G t := by
    intro t k
    refine K3 t ?_
    show Steps p.tables e below (T2.setTop (mkF m 4 #[.val (.ref a1), .val (.ref a2), .unset] [(.int (1 : Int32))])) _
    refine XS.ifYes X2.here hx rfl (pc0 := 4) (pc' := 9) rfl (hb hby d11_4) rfl ((if0 _ _).trans (feq (by decide)).2) (by decide) (by decide) ?_
    show Steps p.tables e below (T2.setTop (mkF m 9 #[.val (.ref a1), .val (.ref a2), .unset] [])) _
    refine XS.aloadN X2.here hx rfl (hb hby d11_9) rfl rfl ?_
    show Steps p.tables e below (T2.setTop (mkF m 10 #[.val (.ref a1), .val (.ref a2), .unset] [(.ref a2)])) _
    exact k
  obtain ⟨T5, X5, e5, st5⟩ := castY X2 hx hZ hown (hw _ (List.mem_of_getElem? (i := 61) rfl)) e2 (Ins.self E2) (g := (mkF m 10 #[.val (.ref a1), .val (.ref a2), .unset] [(.ref a2)])) rfl rfl (hb hby d11_10)
  have K6 : ∀ t, Steps p.tables e below (T5.setTop (mkF m 13 #[.val (.ref a1), .val (.ref a2), .unset] [(.ref a2)])) t → Steps p.tables e below G t := fun t k => K4 t (st5 t k)
  have K7 : ∀ t, Steps p.tables e below (T5.setTop (mkF m 15 #[.val (.ref a1), .val (.ref a2), .val (.ref a2)] [(.ref a1)])) t → Steps p.tables e below G t := by
    intro t k
    refine K6 t ?_
    show Steps p.tables e below (T5.setTop (mkF m 13 #[.val (.ref a1), .val (.ref a2), .unset] [(.ref a2)])) _
    refine XS.astoreN X5.here hx rfl (hb hby d11_13) rfl rfl (l' := #[.val (.ref a1), .val (.ref a2), .val (.ref a2)]) rfl ?_
    show Steps p.tables e below (T5.setTop (mkF m 14 #[.val (.ref a1), .val (.ref a2), .val (.ref a2)] [])) _
    refine XS.aloadN X5.here hx rfl (hb hby d11_14) rfl rfl ?_
    show Steps p.tables e below (T5.setTop (mkF m 15 #[.val (.ref a1), .val (.ref a2), .val (.ref a2)] [(.ref a1)])) _
    exact k
  obtain ⟨T8, X8, e8, st8⟩ := getF X5 hx hZ hown (host := "") (Or.inl (hw _ (List.mem_of_getElem? (i := 47) rfl))) Via.refl e5 F1q (g := (mkF m 15 #[.val (.ref a1), .val (.ref a2), .val (.ref a2)] [(.ref a1)])) rfl rfl (hb hby d11_15)
  have K9 : ∀ t, Steps p.tables e below (T8.setTop (mkF m 18 #[.val (.ref a1), .val (.ref a2), .val (.ref a2)] [(.ref r1q)])) t → Steps p.tables e below G t := fun t k => K7 t (st8 t k)
  have K10 : ∀ t, Steps p.tables e below (T8.setTop (mkF m 19 #[.val (.ref a1), .val (.ref a2), .val (.ref a2)] [(.ref a2), (.ref r1q)])) t → Steps p.tables e below G t := by
    intro t k
    refine K9 t ?_
    show Steps p.tables e below (T8.setTop (mkF m 18 #[.val (.ref a1), .val (.ref a2), .val (.ref a2)] [(.ref r1q)])) _
    refine XS.aloadN X8.here hx rfl (hb hby d11_18) rfl rfl ?_
    show Steps p.tables e below (T8.setTop (mkF m 19 #[.val (.ref a1), .val (.ref a2), .val (.ref a2)] [(.ref a2), (.ref r1q)])) _
    exact k
  obtain ⟨T11, X11, e11, st11⟩ := getF X8 hx hZ hown (host := "") (Or.inl (hw _ (List.mem_of_getElem? (i := 47) rfl))) Via.refl e8 F2q (g := (mkF m 19 #[.val (.ref a1), .val (.ref a2), .val (.ref a2)] [(.ref a2), (.ref r1q)])) rfl rfl (hb hby d11_19)
  have K12 : ∀ t, Steps p.tables e below (T11.setTop (mkF m 22 #[.val (.ref a1), .val (.ref a2), .val (.ref a2)] [(.ref r2q), (.ref r1q)])) t → Steps p.tables e below G t := fun t k => K10 t (st11 t k)
  obtain ⟨cq13, kq13, q13a, q13b, q13c⟩ := isOf hZ e11 S1q.1
  obtain ⟨_, _, ⟨T13, L13, kk13, nn13⟩, -, X13, ⟨Lc13, hQ13, lq13, yq13, zq13⟩, st13⟩ := X11.virtualBack hx (y := (⟨"java/lang/String", "equals", "(Ljava/lang/Object;)Z"⟩ : MethodName)) (z := (⟨"java/lang/String", "equals", "(Ljava/lang/Object;)Z"⟩ : MethodName)) hown (mvT hZ (hw _ (List.mem_of_getElem? (i := 63) rfl))) (mvT hZ (hw _ (List.mem_of_getElem? (i := 64) rfl))) (notFace_of_selects (args := #[]) (mvT hZ (hw _ (List.mem_of_getElem? (i := 66) rfl)))) (mvT hZ (hw _ (List.mem_of_getElem? (i := 66) rfl))) (mvT hZ (hw _ (List.mem_of_getElem? (i := 65) rfl))) (by decide) (backOf (W := 0) (rm12 l Z a0 hw [] r1q r2q b1q b2q k1q k2q z1q z2q v1q v2q cs h0 n0 Z0 S1q S2q f1q f2q hqq SC hcs O0) hZ (hw _ (List.mem_of_getElem? (i := 67) rfl)) (hw _ (List.mem_of_getElem? (i := 9) rfl)) (by decide) (by decide)) q13a q13c (g := (mkF m 22 #[.val (.ref a1), .val (.ref a2), .val (.ref a2)] [(.ref r2q), (.ref r1q)])) rfl (by rw [hml]; rfl) (Steps.refl _) (argsL := [(.ref r2q)]) (rest := []) (lenOf pd_7 rfl) rfl (by show 2 * 0 + _ ≤ _; exact Nat.le_of_eq rfl) (hb hby d11_22) (fun _ _ => ⟨rfl, e11, (by decide : 0 + 0 ≤ _), (by decide : 0 + 0 ≤ _)⟩)
  dsimp only [Pt.U, Pt.locs, Pt.cells, Pt.slots] at X13 lq13 yq13 zq13 st13 hQ13
  subst lq13 yq13 zq13
  obtain ⟨r13, rfl, Nq13, e13, hr13⟩ := hQ13
  have N14 := Fr.app N0 Nq13
  have K15 : ∀ t, Steps p.tables e below (T13.setTop (mkF m 25 #[.val (.ref a1), .val (.ref a2), .val (.ref a2)] [(.int r13)])) t → Steps p.tables e below G t := fun t k => K12 t (st13.trans k)
  by_cases hc16 : r13 = (0 : Int32)
  · obtain ⟨fs, hr, hrun, hended, hW, hsame⟩ := X13.leave (v := some (.int (0 : Int32))) (fun h => by rw [Bd.returns] at h; cases h)
    have KF := K15
    rw [hG] at KF
    refine ⟨_, _, KF _ ?_, hrun, hended, _, _, rfl, ?_, ⟨_, rfl⟩, hW, hsame.mono (by decide) (by decide)⟩
    · show Steps p.tables e below (T13.setTop (mkF m 25 #[.val (.ref a1), .val (.ref a2), .val (.ref a2)] [(.int r13)])) _
      refine XS.ifYes X13.here hx rfl (pc0 := 25) (pc' := 60) rfl (hb hby d11_25) rfl ((if0 _ _).trans (teq hc16).1) (by decide) (by decide) ?_
      show Steps p.tables e below (T13.setTop (mkF m 60 #[.val (.ref a1), .val (.ref a2), .val (.ref a2)] [])) _
      refine XS.iconst X13.here hx rfl (hb hby d11_60) ?_
      show Steps p.tables e below (T13.setTop (mkF m 61 #[.val (.ref a1), .val (.ref a2), .val (.ref a2)] [(.int (0 : Int32))])) _
      exact retN X13 hx (t := .boolean) Bd.returns (by simp) (hb hby d11_61) hr
    · show Q11_d z1q z2q z1g z2g z1p z2p v1q v2q v1g v2g v1p v2p h0 n0 _ T13.heap _
      rw [e13]
      exact ⟨_, rfl, N14, rfl, Or.inr ⟨rfl, fun q => own_says_no hr13 hc16 q.1⟩⟩
  · have K17 : ∀ t, Steps p.tables e below (T13.setTop (mkF m 29 #[.val (.ref a1), .val (.ref a2), .val (.ref a2)] [(.ref a1)])) t → Steps p.tables e below G t := by
      intro t k
      refine K15 t ?_
      show Steps p.tables e below (T13.setTop (mkF m 25 #[.val (.ref a1), .val (.ref a2), .val (.ref a2)] [(.int r13)])) _
      refine XS.ifNo X13.here hx rfl (hb hby d11_25) rfl ((if0 _ _).trans (feq hc16).1) ?_
      show Steps p.tables e below (T13.setTop (mkF m 28 #[.val (.ref a1), .val (.ref a2), .val (.ref a2)] [])) _
      refine XS.aloadN X13.here hx rfl (hb hby d11_28) rfl rfl ?_
      show Steps p.tables e below (T13.setTop (mkF m 29 #[.val (.ref a1), .val (.ref a2), .val (.ref a2)] [(.ref a1)])) _
      exact k
    obtain ⟨T18, X18, e18, st18⟩ := getF X13 hx hZ hown (host := "") (Or.inl (hw _ (List.mem_of_getElem? (i := 49) rfl))) Via.refl e13 F1g (g := (mkF m 29 #[.val (.ref a1), .val (.ref a2), .val (.ref a2)] [(.ref a1)])) rfl rfl (hb hby d11_29)
    have K19 : ∀ t, Steps p.tables e below (T18.setTop (mkF m 32 #[.val (.ref a1), .val (.ref a2), .val (.ref a2)] [(.ref r1g)])) t → Steps p.tables e below G t := fun t k => K17 t (st18 t k)
    have K20 : ∀ t, Steps p.tables e below (T18.setTop (mkF m 33 #[.val (.ref a1), .val (.ref a2), .val (.ref a2)] [(.ref a2), (.ref r1g)])) t → Steps p.tables e below G t := by
      intro t k
      refine K19 t ?_
      show Steps p.tables e below (T18.setTop (mkF m 32 #[.val (.ref a1), .val (.ref a2), .val (.ref a2)] [(.ref r1g)])) _
      refine XS.aloadN X18.here hx rfl (hb hby d11_32) rfl rfl ?_
      show Steps p.tables e below (T18.setTop (mkF m 33 #[.val (.ref a1), .val (.ref a2), .val (.ref a2)] [(.ref a2), (.ref r1g)])) _
      exact k
    obtain ⟨T21, X21, e21, st21⟩ := getF X18 hx hZ hown (host := "") (Or.inl (hw _ (List.mem_of_getElem? (i := 49) rfl))) Via.refl e18 F2g (g := (mkF m 33 #[.val (.ref a1), .val (.ref a2), .val (.ref a2)] [(.ref a2), (.ref r1g)])) rfl rfl (hb hby d11_33)
    have K22 : ∀ t, Steps p.tables e below (T21.setTop (mkF m 36 #[.val (.ref a1), .val (.ref a2), .val (.ref a2)] [(.ref r2g), (.ref r1g)])) t → Steps p.tables e below G t := fun t k => K20 t (st21 t k)
    obtain ⟨cq23, kq23, q23a, q23b, q23c⟩ := isOf hZ e21 S1g.1
    obtain ⟨_, _, ⟨T23, L23, kk23, nn23⟩, -, X23, ⟨Lc23, hQ23, lq23, yq23, zq23⟩, st23⟩ := X21.virtualBack hx (y := (⟨"java/lang/String", "equals", "(Ljava/lang/Object;)Z"⟩ : MethodName)) (z := (⟨"java/lang/String", "equals", "(Ljava/lang/Object;)Z"⟩ : MethodName)) hown (mvT hZ (hw _ (List.mem_of_getElem? (i := 63) rfl))) (mvT hZ (hw _ (List.mem_of_getElem? (i := 64) rfl))) (notFace_of_selects (args := #[]) (mvT hZ (hw _ (List.mem_of_getElem? (i := 66) rfl)))) (mvT hZ (hw _ (List.mem_of_getElem? (i := 66) rfl))) (mvT hZ (hw _ (List.mem_of_getElem? (i := 65) rfl))) (by decide) (backOf (W := 0) (rm12 l Z a0 hw [] r1g r2g b1g b2g k1g k2g z1g z2g v1g v2g cs h0 n0 Z0 S1g S2g f1g f2g hqg SC hcs O0) hZ (hw _ (List.mem_of_getElem? (i := 67) rfl)) (hw _ (List.mem_of_getElem? (i := 9) rfl)) (by decide) (by decide)) q23a q23c (g := (mkF m 36 #[.val (.ref a1), .val (.ref a2), .val (.ref a2)] [(.ref r2g), (.ref r1g)])) rfl (by rw [hml]; rfl) (Steps.refl _) (argsL := [(.ref r2g)]) (rest := []) (lenOf pd_7 rfl) rfl (by show 2 * 0 + _ ≤ _; exact Nat.le_of_eq rfl) (hb hby d11_36) (fun _ _ => ⟨rfl, e21, (by decide : 0 + 0 ≤ _), (by decide : 0 + 0 ≤ _)⟩)
    dsimp only [Pt.U, Pt.locs, Pt.cells, Pt.slots] at X23 lq23 yq23 zq23 st23 hQ23
    subst lq23 yq23 zq23
    obtain ⟨r23, rfl, Nq23, e23, hr23⟩ := hQ23
    have N24 := Fr.app N14 Nq23
    have K25 : ∀ t, Steps p.tables e below (T23.setTop (mkF m 39 #[.val (.ref a1), .val (.ref a2), .val (.ref a2)] [(.int r23)])) t → Steps p.tables e below G t := fun t k => K22 t (st23.trans k)
    by_cases hc26 : r23 = (0 : Int32)
    · obtain ⟨fs, hr, hrun, hended, hW, hsame⟩ := X23.leave (v := some (.int (0 : Int32))) (fun h => by rw [Bd.returns] at h; cases h)
      have KF := K25
      rw [hG] at KF
      refine ⟨_, _, KF _ ?_, hrun, hended, _, _, rfl, ?_, ⟨_, rfl⟩, hW, hsame.mono (by decide) (by decide)⟩
      · show Steps p.tables e below (T23.setTop (mkF m 39 #[.val (.ref a1), .val (.ref a2), .val (.ref a2)] [(.int r23)])) _
        refine XS.ifYes X23.here hx rfl (pc0 := 39) (pc' := 60) rfl (hb hby d11_39) rfl ((if0 _ _).trans (teq hc26).1) (by decide) (by decide) ?_
        show Steps p.tables e below (T23.setTop (mkF m 60 #[.val (.ref a1), .val (.ref a2), .val (.ref a2)] [])) _
        refine XS.iconst X23.here hx rfl (hb hby d11_60) ?_
        show Steps p.tables e below (T23.setTop (mkF m 61 #[.val (.ref a1), .val (.ref a2), .val (.ref a2)] [(.int (0 : Int32))])) _
        exact retN X23 hx (t := .boolean) Bd.returns (by simp) (hb hby d11_61) hr
      · show Q11_d z1q z2q z1g z2g z1p z2p v1q v2q v1g v2g v1p v2p h0 n0 _ T23.heap _
        rw [e23]
        exact ⟨_, rfl, N24, rfl, Or.inr ⟨rfl, fun q => own_says_no hr23 hc26 q.2.1⟩⟩
    · have K27 : ∀ t, Steps p.tables e below (T23.setTop (mkF m 43 #[.val (.ref a1), .val (.ref a2), .val (.ref a2)] [(.ref a1)])) t → Steps p.tables e below G t := by
        intro t k
        refine K25 t ?_
        show Steps p.tables e below (T23.setTop (mkF m 39 #[.val (.ref a1), .val (.ref a2), .val (.ref a2)] [(.int r23)])) _
        refine XS.ifNo X23.here hx rfl (hb hby d11_39) rfl ((if0 _ _).trans (feq hc26).1) ?_
        show Steps p.tables e below (T23.setTop (mkF m 42 #[.val (.ref a1), .val (.ref a2), .val (.ref a2)] [])) _
        refine XS.aloadN X23.here hx rfl (hb hby d11_42) rfl rfl ?_
        show Steps p.tables e below (T23.setTop (mkF m 43 #[.val (.ref a1), .val (.ref a2), .val (.ref a2)] [(.ref a1)])) _
        exact k
      obtain ⟨T28, X28, e28, st28⟩ := getF X23 hx hZ hown (host := "") (Or.inl (hw _ (List.mem_of_getElem? (i := 51) rfl))) Via.refl e23 F1p (g := (mkF m 43 #[.val (.ref a1), .val (.ref a2), .val (.ref a2)] [(.ref a1)])) rfl rfl (hb hby d11_43)
      have K29 : ∀ t, Steps p.tables e below (T28.setTop (mkF m 46 #[.val (.ref a1), .val (.ref a2), .val (.ref a2)] [(.ref r1p)])) t → Steps p.tables e below G t := fun t k => K27 t (st28 t k)
      have K30 : ∀ t, Steps p.tables e below (T28.setTop (mkF m 47 #[.val (.ref a1), .val (.ref a2), .val (.ref a2)] [(.ref a2), (.ref r1p)])) t → Steps p.tables e below G t := by
        intro t k
        refine K29 t ?_
        show Steps p.tables e below (T28.setTop (mkF m 46 #[.val (.ref a1), .val (.ref a2), .val (.ref a2)] [(.ref r1p)])) _
        refine XS.aloadN X28.here hx rfl (hb hby d11_46) rfl rfl ?_
        show Steps p.tables e below (T28.setTop (mkF m 47 #[.val (.ref a1), .val (.ref a2), .val (.ref a2)] [(.ref a2), (.ref r1p)])) _
        exact k
      obtain ⟨T31, X31, e31, st31⟩ := getF X28 hx hZ hown (host := "") (Or.inl (hw _ (List.mem_of_getElem? (i := 51) rfl))) Via.refl e28 F2p (g := (mkF m 47 #[.val (.ref a1), .val (.ref a2), .val (.ref a2)] [(.ref a2), (.ref r1p)])) rfl rfl (hb hby d11_47)
      have K32 : ∀ t, Steps p.tables e below (T31.setTop (mkF m 50 #[.val (.ref a1), .val (.ref a2), .val (.ref a2)] [(.ref r2p), (.ref r1p)])) t → Steps p.tables e below G t := fun t k => K30 t (st31 t k)
      obtain ⟨cq33, kq33, q33a, q33b, q33c⟩ := isOf hZ e31 S1p.1
      obtain ⟨_, _, ⟨T33, L33, kk33, nn33⟩, -, X33, ⟨Lc33, hQ33, lq33, yq33, zq33⟩, st33⟩ := X31.virtualBack hx (y := (⟨"java/lang/String", "equals", "(Ljava/lang/Object;)Z"⟩ : MethodName)) (z := (⟨"java/lang/String", "equals", "(Ljava/lang/Object;)Z"⟩ : MethodName)) hown (mvT hZ (hw _ (List.mem_of_getElem? (i := 63) rfl))) (mvT hZ (hw _ (List.mem_of_getElem? (i := 64) rfl))) (notFace_of_selects (args := #[]) (mvT hZ (hw _ (List.mem_of_getElem? (i := 66) rfl)))) (mvT hZ (hw _ (List.mem_of_getElem? (i := 66) rfl))) (mvT hZ (hw _ (List.mem_of_getElem? (i := 65) rfl))) (by decide) (backOf (W := 0) (rm12 l Z a0 hw [] r1p r2p b1p b2p k1p k2p z1p z2p v1p v2p cs h0 n0 Z0 S1p S2p f1p f2p hqp SC hcs O0) hZ (hw _ (List.mem_of_getElem? (i := 67) rfl)) (hw _ (List.mem_of_getElem? (i := 9) rfl)) (by decide) (by decide)) q33a q33c (g := (mkF m 50 #[.val (.ref a1), .val (.ref a2), .val (.ref a2)] [(.ref r2p), (.ref r1p)])) rfl (by rw [hml]; rfl) (Steps.refl _) (argsL := [(.ref r2p)]) (rest := []) (lenOf pd_7 rfl) rfl (by show 2 * 0 + _ ≤ _; exact Nat.le_of_eq rfl) (hb hby d11_50) (fun _ _ => ⟨rfl, e31, (by decide : 0 + 0 ≤ _), (by decide : 0 + 0 ≤ _)⟩)
      dsimp only [Pt.U, Pt.locs, Pt.cells, Pt.slots] at X33 lq33 yq33 zq33 st33 hQ33
      subst lq33 yq33 zq33
      obtain ⟨r33, rfl, Nq33, e33, hr33⟩ := hQ33
      have N34 := Fr.app N24 Nq33
      have K35 : ∀ t, Steps p.tables e below (T33.setTop (mkF m 53 #[.val (.ref a1), .val (.ref a2), .val (.ref a2)] [(.int r33)])) t → Steps p.tables e below G t := fun t k => K32 t (st33.trans k)
      by_cases hc36 : r33 = (0 : Int32)
      · obtain ⟨fs, hr, hrun, hended, hW, hsame⟩ := X33.leave (v := some (.int (0 : Int32))) (fun h => by rw [Bd.returns] at h; cases h)
        have KF := K35
        rw [hG] at KF
        refine ⟨_, _, KF _ ?_, hrun, hended, _, _, rfl, ?_, ⟨_, rfl⟩, hW, hsame.mono (by decide) (by decide)⟩
        · show Steps p.tables e below (T33.setTop (mkF m 53 #[.val (.ref a1), .val (.ref a2), .val (.ref a2)] [(.int r33)])) _
          refine XS.ifYes X33.here hx rfl (pc0 := 53) (pc' := 60) rfl (hb hby d11_53) rfl ((if0 _ _).trans (teq hc36).1) (by decide) (by decide) ?_
          show Steps p.tables e below (T33.setTop (mkF m 60 #[.val (.ref a1), .val (.ref a2), .val (.ref a2)] [])) _
          refine XS.iconst X33.here hx rfl (hb hby d11_60) ?_
          show Steps p.tables e below (T33.setTop (mkF m 61 #[.val (.ref a1), .val (.ref a2), .val (.ref a2)] [(.int (0 : Int32))])) _
          exact retN X33 hx (t := .boolean) Bd.returns (by simp) (hb hby d11_61) hr
        · show Q11_d z1q z2q z1g z2g z1p z2p v1q v2q v1g v2g v1p v2p h0 n0 _ T33.heap _
          rw [e33]
          exact ⟨_, rfl, N34, rfl, Or.inr ⟨rfl, fun q => own_says_no hr33 hc36 q.2.2⟩⟩
      · obtain ⟨fs, hr, hrun, hended, hW, hsame⟩ := X33.leave (v := some (.int (1 : Int32))) (fun h => by rw [Bd.returns] at h; cases h)
        have KF := K35
        rw [hG] at KF
        refine ⟨_, _, KF _ ?_, hrun, hended, _, _, rfl, ?_, ⟨_, rfl⟩, hW, hsame.mono (by decide) (by decide)⟩
        · show Steps p.tables e below (T33.setTop (mkF m 53 #[.val (.ref a1), .val (.ref a2), .val (.ref a2)] [(.int r33)])) _
          refine XS.ifNo X33.here hx rfl (hb hby d11_53) rfl ((if0 _ _).trans (feq hc36).1) ?_
          show Steps p.tables e below (T33.setTop (mkF m 56 #[.val (.ref a1), .val (.ref a2), .val (.ref a2)] [])) _
          refine XS.iconst X33.here hx rfl (hb hby d11_56) ?_
          show Steps p.tables e below (T33.setTop (mkF m 57 #[.val (.ref a1), .val (.ref a2), .val (.ref a2)] [(.int (1 : Int32))])) _
          refine XS.goto X33.here hx rfl (pc0 := 57) (pc' := 61) rfl (hb hby d11_57) (by decide) (by decide) ?_
          show Steps p.tables e below (T33.setTop (mkF m 61 #[.val (.ref a1), .val (.ref a2), .val (.ref a2)] [(.int (1 : Int32))])) _
          exact retN X33 hx (t := .boolean) Bd.returns (by simp) (hb hby d11_61) hr
        · show Q11_d z1q z2q z1g z2g z1p z2p v1q v2q v1g v2g v1p v2p h0 n0 _ T33.heap _
          rw [e33]
          exact ⟨_, rfl, N34, rfl, Or.inl ⟨rfl, own_says_yes hr13 hc16, own_says_yes hr23 hc26, own_says_yes hr33 hc36⟩⟩
def Q0 (n0 : Nat) (v : Option Value) (h : Heap) (L : List Loc) : Prop := v = some (.int 1) ∧ Fr n0 L
theorem pd_8 : parseMethodDescriptor "(I)I" = some ⟨[.int], some .int⟩ := by decide +kernel
theorem pd_9 : parseMethodDescriptor "(III)Ljava/lang/String;" = some ⟨[.int, .int, .int], some (.object "java/lang/String")⟩ := by decide +kernel
theorem pd_10 : parseMethodDescriptor "(Ljava/lang/String;Ljava/lang/String;Ljava/lang/String;)V" = some ⟨[(.object "java/lang/String"), (.object "java/lang/String"), (.object "java/lang/String")], none⟩ := by decide +kernel
theorem pd_11 : parseMethodDescriptor "(IIIIII)Z" = some ⟨[.int, .int, .int, .int, .int, .int], some .boolean⟩ := by decide +kernel
theorem pd_12 : parseMethodDescriptor "(Ljava/lang/String;Ljava/lang/String;III)V" = some ⟨[(.object "java/lang/String"), (.object "java/lang/String"), .int, .int, .int], none⟩ := by decide +kernel
theorem ef_rm0 (m : MethodId) (x0 : Int32) (x1 : Int32) (x2 : Int32) (x3 : Int32) (x4 : Int32) : entryFrame m #[(.int x0), (.int x1), (.int x2), (.int x3), (.int x4)] maxLocals = mkF m 0 #[.val (.int x0), .val (.int x1), .val (.int x2), .val (.int x3), .val (.int x4), .unset, .unset, .unset, .unset, .unset, .unset, .unset, .unset, .unset, .unset, .unset, .unset, .unset, .unset, .unset, .unset, .unset, .unset, .unset, .unset, .unset, .unset, .unset, .unset, .unset, .unset, .unset, .unset, .unset, .unset, .unset] [] := by first | (simp [entryFrame, mkF, argsToLocals, Value.category, maxLocals]; done) | rfl
set_option maxRecDepth 65536 in
set_option maxHeartbeats 40000000 in
theorem rm0 (l : Launch) (Z : State) (a0 : Array Value) (hw : ∀ d ∈ tables_1, d.before a0 Z = true) (ws : List Jvm.Cond) (p1 p2 p3 p4 p5 cs : Int32) (h0 : Heap) (n0 : Nat) (Z0 : n0 ≤ h0.size) (hEL : EW Z a0 own_EL) (SC : Sta Z Z.heap "java/lang/String" "COMPACT_STRINGS" "Z" (.int cs)) (hcs : ¬ cs = 0) (O0 : Old Z n0 h0) :
    MetFree l x (head1 (Jvm.Cond.code x code maxLocals ret :: ws) room_1) (fun a U => a = #[(.int p1), (.int p2), (.int p3), (.int p4), (.int p5)] ∧ Z.Warmed39 U.vm ∧ U.heap = h0 ∧ CHv Z own_EL U.vm h0) (fun _ _ _ _ _ => True) (fun _ U o U' => ∃ v L, o = .returned v ∧ Q0 n0 v U'.heap L ∧ CHr Z own_EL U.vm U.heap U'.vm U'.heap ∧ ReturnedEndW U o U' L room_1.cells room_1.slots) := by
  refine MetFree.of_bodySF (plainFor_of_name pn_com_example_conq_conq_model_GroupPartitionEqualsPinLaw) hisR ?_
  intro p e s m args below meth c s₁ Bd hml0 hP hK
  obtain ⟨rfl, hZ, hh, hCH⟩ := hP
  have hx := Bd.exec
  have hby := Bd.bytes
  have hml : c.maxLocals = 36 := hml0
  have hown : s.vm.findClass "com/example/conq/conq/model/GroupPartitionEqualsPinLaw" = some m.cls := findClass_of_methodNamed Bd.named
  have hnm := (name_of_methodNamed Bd.named Bd.method).1
  have X0 : Stand p l e room_1 (s.setVm s.vm) m #[(.int p1), (.int p2), (.int p3), (.int p4), (.int p5)] below meth c s₁ [] 0 0 := Stand.of_body Bd
  have e0 : s₁.heap = h0 := by rw [← hh, Bd.state]; rfl
  have N0 := Fr.nil n0
  have KP0 : Keep h0 h0 [] := Keep.refl h0 _
  obtain ⟨G, hG⟩ : ∃ G : State, G = s₁.setTop (entryFrame m #[(.int p1), (.int p2), (.int p3), (.int p4), (.int p5)] maxLocals) := ⟨_, rfl⟩
  have pre0 : ∀ t, Steps p.tables e below (s₁.setTop (mkF m 0 #[.val (.int p1), .val (.int p2), .val (.int p3), .val (.int p4), .val (.int p5), .unset, .unset, .unset, .unset, .unset, .unset, .unset, .unset, .unset, .unset, .unset, .unset, .unset, .unset, .unset, .unset, .unset, .unset, .unset, .unset, .unset, .unset, .unset, .unset, .unset, .unset, .unset, .unset, .unset, .unset, .unset] [])) t → Steps p.tables e below G t := fun t k => hG ▸ castTop (ef_rm0 m p1 p2 p3 p4 p5) k
  have hS0 : s.Since s.vm h0.size := (State.WarmedH.refl s).since _
  have kS0 : h0.size ≤ h0.size := Nat.le_refl _
  have CH0 : CHr Z own_EL s.vm h0 s.vm h0 := CHr.refl hCH
  have K1 : ∀ t, Steps p.tables e below (s₁.setTop (mkF m 6 #[.val (.int p1), .val (.int p2), .val (.int p3), .val (.int p4), .val (.int p5), .unset, .unset, .unset, .unset, .unset, .unset, .unset, .unset, .unset, .unset, .unset, .unset, .unset, .unset, .unset, .unset, .unset, .unset, .unset, .unset, .unset, .unset, .unset, .unset, .unset, .unset, .unset, .unset, .unset, .unset, .unset] [(.int (((p4.toUInt32 >>> ((12 : Int32) &&& 31).toUInt32).toInt32) &&& (1 : Int32)))])) t → Steps p.tables e below G t := by
    intro t k
    refine pre0 t ?_
    show Steps p.tables e below (s₁.setTop (mkF m 0 #[.val (.int p1), .val (.int p2), .val (.int p3), .val (.int p4), .val (.int p5), .unset, .unset, .unset, .unset, .unset, .unset, .unset, .unset, .unset, .unset, .unset, .unset, .unset, .unset, .unset, .unset, .unset, .unset, .unset, .unset, .unset, .unset, .unset, .unset, .unset, .unset, .unset, .unset, .unset, .unset, .unset] [])) _
    refine XS.iloadN X0.here hx rfl (hb hby at_0) rfl ?_
    show Steps p.tables e below (s₁.setTop (mkF m 1 #[.val (.int p1), .val (.int p2), .val (.int p3), .val (.int p4), .val (.int p5), .unset, .unset, .unset, .unset, .unset, .unset, .unset, .unset, .unset, .unset, .unset, .unset, .unset, .unset, .unset, .unset, .unset, .unset, .unset, .unset, .unset, .unset, .unset, .unset, .unset, .unset, .unset, .unset, .unset, .unset, .unset] [(.int p4)])) _
    refine XS.bipush X0.here hx rfl (hb hby at_1) ?_
    show Steps p.tables e below (s₁.setTop (mkF m 3 #[.val (.int p1), .val (.int p2), .val (.int p3), .val (.int p4), .val (.int p5), .unset, .unset, .unset, .unset, .unset, .unset, .unset, .unset, .unset, .unset, .unset, .unset, .unset, .unset, .unset, .unset, .unset, .unset, .unset, .unset, .unset, .unset, .unset, .unset, .unset, .unset, .unset, .unset, .unset, .unset, .unset] [(.int (12 : Int32)), (.int p4)])) _
    refine XS.iushr X0.here hx rfl (hb hby at_3) rfl ?_
    show Steps p.tables e below (s₁.setTop (mkF m 4 #[.val (.int p1), .val (.int p2), .val (.int p3), .val (.int p4), .val (.int p5), .unset, .unset, .unset, .unset, .unset, .unset, .unset, .unset, .unset, .unset, .unset, .unset, .unset, .unset, .unset, .unset, .unset, .unset, .unset, .unset, .unset, .unset, .unset, .unset, .unset, .unset, .unset, .unset, .unset, .unset, .unset] [(.int ((p4.toUInt32 >>> ((12 : Int32) &&& 31).toUInt32).toInt32))])) _
    refine XS.iconst X0.here hx rfl (hb hby at_4) ?_
    show Steps p.tables e below (s₁.setTop (mkF m 5 #[.val (.int p1), .val (.int p2), .val (.int p3), .val (.int p4), .val (.int p5), .unset, .unset, .unset, .unset, .unset, .unset, .unset, .unset, .unset, .unset, .unset, .unset, .unset, .unset, .unset, .unset, .unset, .unset, .unset, .unset, .unset, .unset, .unset, .unset, .unset, .unset, .unset, .unset, .unset, .unset, .unset] [(.int (1 : Int32)), (.int ((p4.toUInt32 >>> ((12 : Int32) &&& 31).toUInt32).toInt32))])) _
    refine XS.iand X0.here hx rfl (hb hby at_5) rfl ?_
    show Steps p.tables e below (s₁.setTop (mkF m 6 #[.val (.int p1), .val (.int p2), .val (.int p3), .val (.int p4), .val (.int p5), .unset, .unset, .unset, .unset, .unset, .unset, .unset, .unset, .unset, .unset, .unset, .unset, .unset, .unset, .unset, .unset, .unset, .unset, .unset, .unset, .unset, .unset, .unset, .unset, .unset, .unset, .unset, .unset, .unset, .unset, .unset] [(.int (((p4.toUInt32 >>> ((12 : Int32) &&& 31).toUInt32).toInt32) &&& (1 : Int32)))])) _
    exact k
  have K3 : ∀ t, Steps p.tables e below (s₁.setTop (mkF m 14 #[.val (.int p1), .val (.int p2), .val (.int p3), .val (.int p4), .val (.int p5), .unset, .unset, .unset, .unset, .unset, .unset, .unset, .unset, .unset, .unset, .unset, .unset, .unset, .unset, .unset, .unset, .unset, .unset, .unset, .unset, .unset, .unset, .unset, .unset, .unset, .unset, .unset, .unset, .unset, .unset, .unset] [(.int (if (((p4.toUInt32 >>> ((12 : Int32) &&& 31).toUInt32).toInt32) &&& (1 : Int32)) = (0 : Int32) then (0 : Int32) else (1 : Int32)))])) t → Steps p.tables e below G t := by
    intro t k
    refine K1 t ?_
    by_cases hc2 : (((p4.toUInt32 >>> ((12 : Int32) &&& 31).toUInt32).toInt32) &&& (1 : Int32)) = (0 : Int32)
    · show Steps p.tables e below (s₁.setTop (mkF m 6 #[.val (.int p1), .val (.int p2), .val (.int p3), .val (.int p4), .val (.int p5), .unset, .unset, .unset, .unset, .unset, .unset, .unset, .unset, .unset, .unset, .unset, .unset, .unset, .unset, .unset, .unset, .unset, .unset, .unset, .unset, .unset, .unset, .unset, .unset, .unset, .unset, .unset, .unset, .unset, .unset, .unset] [(.int (((p4.toUInt32 >>> ((12 : Int32) &&& 31).toUInt32).toInt32) &&& (1 : Int32)))])) _
      refine XS.ifYes X0.here hx rfl (pc0 := 6) (pc' := 13) rfl (hb hby at_6) rfl ((if0 _ _).trans (teq hc2).1) (by decide) (by decide) ?_
      show Steps p.tables e below (s₁.setTop (mkF m 13 #[.val (.int p1), .val (.int p2), .val (.int p3), .val (.int p4), .val (.int p5), .unset, .unset, .unset, .unset, .unset, .unset, .unset, .unset, .unset, .unset, .unset, .unset, .unset, .unset, .unset, .unset, .unset, .unset, .unset, .unset, .unset, .unset, .unset, .unset, .unset, .unset, .unset, .unset, .unset, .unset, .unset] [])) _
      refine XS.iconst X0.here hx rfl (hb hby at_13) ?_
      show Steps p.tables e below (s₁.setTop (mkF m 14 #[.val (.int p1), .val (.int p2), .val (.int p3), .val (.int p4), .val (.int p5), .unset, .unset, .unset, .unset, .unset, .unset, .unset, .unset, .unset, .unset, .unset, .unset, .unset, .unset, .unset, .unset, .unset, .unset, .unset, .unset, .unset, .unset, .unset, .unset, .unset, .unset, .unset, .unset, .unset, .unset, .unset] [(.int (0 : Int32))])) _
      simp only [if_pos hc2] at k
      exact k
    · show Steps p.tables e below (s₁.setTop (mkF m 6 #[.val (.int p1), .val (.int p2), .val (.int p3), .val (.int p4), .val (.int p5), .unset, .unset, .unset, .unset, .unset, .unset, .unset, .unset, .unset, .unset, .unset, .unset, .unset, .unset, .unset, .unset, .unset, .unset, .unset, .unset, .unset, .unset, .unset, .unset, .unset, .unset, .unset, .unset, .unset, .unset, .unset] [(.int (((p4.toUInt32 >>> ((12 : Int32) &&& 31).toUInt32).toInt32) &&& (1 : Int32)))])) _
      refine XS.ifNo X0.here hx rfl (hb hby at_6) rfl ((if0 _ _).trans (feq hc2).1) ?_
      show Steps p.tables e below (s₁.setTop (mkF m 9 #[.val (.int p1), .val (.int p2), .val (.int p3), .val (.int p4), .val (.int p5), .unset, .unset, .unset, .unset, .unset, .unset, .unset, .unset, .unset, .unset, .unset, .unset, .unset, .unset, .unset, .unset, .unset, .unset, .unset, .unset, .unset, .unset, .unset, .unset, .unset, .unset, .unset, .unset, .unset, .unset, .unset] [])) _
      refine XS.iconst X0.here hx rfl (hb hby at_9) ?_
      show Steps p.tables e below (s₁.setTop (mkF m 10 #[.val (.int p1), .val (.int p2), .val (.int p3), .val (.int p4), .val (.int p5), .unset, .unset, .unset, .unset, .unset, .unset, .unset, .unset, .unset, .unset, .unset, .unset, .unset, .unset, .unset, .unset, .unset, .unset, .unset, .unset, .unset, .unset, .unset, .unset, .unset, .unset, .unset, .unset, .unset, .unset, .unset] [(.int (1 : Int32))])) _
      refine XS.goto X0.here hx rfl (pc0 := 10) (pc' := 14) rfl (hb hby at_10) (by decide) (by decide) ?_
      show Steps p.tables e below (s₁.setTop (mkF m 14 #[.val (.int p1), .val (.int p2), .val (.int p3), .val (.int p4), .val (.int p5), .unset, .unset, .unset, .unset, .unset, .unset, .unset, .unset, .unset, .unset, .unset, .unset, .unset, .unset, .unset, .unset, .unset, .unset, .unset, .unset, .unset, .unset, .unset, .unset, .unset, .unset, .unset, .unset, .unset, .unset, .unset] [(.int (1 : Int32))])) _
      simp only [if_neg hc2] at k
      exact k
  obtain ⟨shq, h_shq⟩ : ∃ z : Int32, z = (if (((p4.toUInt32 >>> ((12 : Int32) &&& 31).toUInt32).toInt32) &&& (1 : Int32)) = (0 : Int32) then (0 : Int32) else (1 : Int32)) := ⟨_, rfl⟩
  have K4 : ∀ t, Steps p.tables e below (s₁.setTop (mkF m 14 #[.val (.int p1), .val (.int p2), .val (.int p3), .val (.int p4), .val (.int p5), .unset, .unset, .unset, .unset, .unset, .unset, .unset, .unset, .unset, .unset, .unset, .unset, .unset, .unset, .unset, .unset, .unset, .unset, .unset, .unset, .unset, .unset, .unset, .unset, .unset, .unset, .unset, .unset, .unset, .unset, .unset] [(.int shq)])) t → Steps p.tables e below G t := by rw [h_shq]; exact K3
  have K5 : ∀ t, Steps p.tables e below (s₁.setTop (mkF m 22 #[.val (.int p1), .val (.int p2), .val (.int p3), .val (.int p4), .val (.int p5), .val (.int shq), .unset, .unset, .unset, .unset, .unset, .unset, .unset, .unset, .unset, .unset, .unset, .unset, .unset, .unset, .unset, .unset, .unset, .unset, .unset, .unset, .unset, .unset, .unset, .unset, .unset, .unset, .unset, .unset, .unset, .unset] [(.int (((p4.toUInt32 >>> ((13 : Int32) &&& 31).toUInt32).toInt32) &&& (1 : Int32)))])) t → Steps p.tables e below G t := by
    intro t k
    refine K4 t ?_
    show Steps p.tables e below (s₁.setTop (mkF m 14 #[.val (.int p1), .val (.int p2), .val (.int p3), .val (.int p4), .val (.int p5), .unset, .unset, .unset, .unset, .unset, .unset, .unset, .unset, .unset, .unset, .unset, .unset, .unset, .unset, .unset, .unset, .unset, .unset, .unset, .unset, .unset, .unset, .unset, .unset, .unset, .unset, .unset, .unset, .unset, .unset, .unset] [(.int shq)])) _
    refine XS.istore X0.here hx rfl (hb hby at_14) rfl (l' := #[.val (.int p1), .val (.int p2), .val (.int p3), .val (.int p4), .val (.int p5), .val (.int shq), .unset, .unset, .unset, .unset, .unset, .unset, .unset, .unset, .unset, .unset, .unset, .unset, .unset, .unset, .unset, .unset, .unset, .unset, .unset, .unset, .unset, .unset, .unset, .unset, .unset, .unset, .unset, .unset, .unset, .unset]) rfl ?_
    show Steps p.tables e below (s₁.setTop (mkF m 16 #[.val (.int p1), .val (.int p2), .val (.int p3), .val (.int p4), .val (.int p5), .val (.int shq), .unset, .unset, .unset, .unset, .unset, .unset, .unset, .unset, .unset, .unset, .unset, .unset, .unset, .unset, .unset, .unset, .unset, .unset, .unset, .unset, .unset, .unset, .unset, .unset, .unset, .unset, .unset, .unset, .unset, .unset] [])) _
    refine XS.iloadN X0.here hx rfl (hb hby at_16) rfl ?_
    show Steps p.tables e below (s₁.setTop (mkF m 17 #[.val (.int p1), .val (.int p2), .val (.int p3), .val (.int p4), .val (.int p5), .val (.int shq), .unset, .unset, .unset, .unset, .unset, .unset, .unset, .unset, .unset, .unset, .unset, .unset, .unset, .unset, .unset, .unset, .unset, .unset, .unset, .unset, .unset, .unset, .unset, .unset, .unset, .unset, .unset, .unset, .unset, .unset] [(.int p4)])) _
    refine XS.bipush X0.here hx rfl (hb hby at_17) ?_
    show Steps p.tables e below (s₁.setTop (mkF m 19 #[.val (.int p1), .val (.int p2), .val (.int p3), .val (.int p4), .val (.int p5), .val (.int shq), .unset, .unset, .unset, .unset, .unset, .unset, .unset, .unset, .unset, .unset, .unset, .unset, .unset, .unset, .unset, .unset, .unset, .unset, .unset, .unset, .unset, .unset, .unset, .unset, .unset, .unset, .unset, .unset, .unset, .unset] [(.int (13 : Int32)), (.int p4)])) _
    refine XS.iushr X0.here hx rfl (hb hby at_19) rfl ?_
    show Steps p.tables e below (s₁.setTop (mkF m 20 #[.val (.int p1), .val (.int p2), .val (.int p3), .val (.int p4), .val (.int p5), .val (.int shq), .unset, .unset, .unset, .unset, .unset, .unset, .unset, .unset, .unset, .unset, .unset, .unset, .unset, .unset, .unset, .unset, .unset, .unset, .unset, .unset, .unset, .unset, .unset, .unset, .unset, .unset, .unset, .unset, .unset, .unset] [(.int ((p4.toUInt32 >>> ((13 : Int32) &&& 31).toUInt32).toInt32))])) _
    refine XS.iconst X0.here hx rfl (hb hby at_20) ?_
    show Steps p.tables e below (s₁.setTop (mkF m 21 #[.val (.int p1), .val (.int p2), .val (.int p3), .val (.int p4), .val (.int p5), .val (.int shq), .unset, .unset, .unset, .unset, .unset, .unset, .unset, .unset, .unset, .unset, .unset, .unset, .unset, .unset, .unset, .unset, .unset, .unset, .unset, .unset, .unset, .unset, .unset, .unset, .unset, .unset, .unset, .unset, .unset, .unset] [(.int (1 : Int32)), (.int ((p4.toUInt32 >>> ((13 : Int32) &&& 31).toUInt32).toInt32))])) _
    refine XS.iand X0.here hx rfl (hb hby at_21) rfl ?_
    show Steps p.tables e below (s₁.setTop (mkF m 22 #[.val (.int p1), .val (.int p2), .val (.int p3), .val (.int p4), .val (.int p5), .val (.int shq), .unset, .unset, .unset, .unset, .unset, .unset, .unset, .unset, .unset, .unset, .unset, .unset, .unset, .unset, .unset, .unset, .unset, .unset, .unset, .unset, .unset, .unset, .unset, .unset, .unset, .unset, .unset, .unset, .unset, .unset] [(.int (((p4.toUInt32 >>> ((13 : Int32) &&& 31).toUInt32).toInt32) &&& (1 : Int32)))])) _
    exact k
  have K7 : ∀ t, Steps p.tables e below (s₁.setTop (mkF m 30 #[.val (.int p1), .val (.int p2), .val (.int p3), .val (.int p4), .val (.int p5), .val (.int shq), .unset, .unset, .unset, .unset, .unset, .unset, .unset, .unset, .unset, .unset, .unset, .unset, .unset, .unset, .unset, .unset, .unset, .unset, .unset, .unset, .unset, .unset, .unset, .unset, .unset, .unset, .unset, .unset, .unset, .unset] [(.int (if (((p4.toUInt32 >>> ((13 : Int32) &&& 31).toUInt32).toInt32) &&& (1 : Int32)) = (0 : Int32) then (0 : Int32) else (1 : Int32)))])) t → Steps p.tables e below G t := by
    intro t k
    refine K5 t ?_
    by_cases hc6 : (((p4.toUInt32 >>> ((13 : Int32) &&& 31).toUInt32).toInt32) &&& (1 : Int32)) = (0 : Int32)
    · show Steps p.tables e below (s₁.setTop (mkF m 22 #[.val (.int p1), .val (.int p2), .val (.int p3), .val (.int p4), .val (.int p5), .val (.int shq), .unset, .unset, .unset, .unset, .unset, .unset, .unset, .unset, .unset, .unset, .unset, .unset, .unset, .unset, .unset, .unset, .unset, .unset, .unset, .unset, .unset, .unset, .unset, .unset, .unset, .unset, .unset, .unset, .unset, .unset] [(.int (((p4.toUInt32 >>> ((13 : Int32) &&& 31).toUInt32).toInt32) &&& (1 : Int32)))])) _
      refine XS.ifYes X0.here hx rfl (pc0 := 22) (pc' := 29) rfl (hb hby at_22) rfl ((if0 _ _).trans (teq hc6).1) (by decide) (by decide) ?_
      show Steps p.tables e below (s₁.setTop (mkF m 29 #[.val (.int p1), .val (.int p2), .val (.int p3), .val (.int p4), .val (.int p5), .val (.int shq), .unset, .unset, .unset, .unset, .unset, .unset, .unset, .unset, .unset, .unset, .unset, .unset, .unset, .unset, .unset, .unset, .unset, .unset, .unset, .unset, .unset, .unset, .unset, .unset, .unset, .unset, .unset, .unset, .unset, .unset] [])) _
      refine XS.iconst X0.here hx rfl (hb hby at_29) ?_
      show Steps p.tables e below (s₁.setTop (mkF m 30 #[.val (.int p1), .val (.int p2), .val (.int p3), .val (.int p4), .val (.int p5), .val (.int shq), .unset, .unset, .unset, .unset, .unset, .unset, .unset, .unset, .unset, .unset, .unset, .unset, .unset, .unset, .unset, .unset, .unset, .unset, .unset, .unset, .unset, .unset, .unset, .unset, .unset, .unset, .unset, .unset, .unset, .unset] [(.int (0 : Int32))])) _
      simp only [if_pos hc6] at k
      exact k
    · show Steps p.tables e below (s₁.setTop (mkF m 22 #[.val (.int p1), .val (.int p2), .val (.int p3), .val (.int p4), .val (.int p5), .val (.int shq), .unset, .unset, .unset, .unset, .unset, .unset, .unset, .unset, .unset, .unset, .unset, .unset, .unset, .unset, .unset, .unset, .unset, .unset, .unset, .unset, .unset, .unset, .unset, .unset, .unset, .unset, .unset, .unset, .unset, .unset] [(.int (((p4.toUInt32 >>> ((13 : Int32) &&& 31).toUInt32).toInt32) &&& (1 : Int32)))])) _
      refine XS.ifNo X0.here hx rfl (hb hby at_22) rfl ((if0 _ _).trans (feq hc6).1) ?_
      show Steps p.tables e below (s₁.setTop (mkF m 25 #[.val (.int p1), .val (.int p2), .val (.int p3), .val (.int p4), .val (.int p5), .val (.int shq), .unset, .unset, .unset, .unset, .unset, .unset, .unset, .unset, .unset, .unset, .unset, .unset, .unset, .unset, .unset, .unset, .unset, .unset, .unset, .unset, .unset, .unset, .unset, .unset, .unset, .unset, .unset, .unset, .unset, .unset] [])) _
      refine XS.iconst X0.here hx rfl (hb hby at_25) ?_
      show Steps p.tables e below (s₁.setTop (mkF m 26 #[.val (.int p1), .val (.int p2), .val (.int p3), .val (.int p4), .val (.int p5), .val (.int shq), .unset, .unset, .unset, .unset, .unset, .unset, .unset, .unset, .unset, .unset, .unset, .unset, .unset, .unset, .unset, .unset, .unset, .unset, .unset, .unset, .unset, .unset, .unset, .unset, .unset, .unset, .unset, .unset, .unset, .unset] [(.int (1 : Int32))])) _
      refine XS.goto X0.here hx rfl (pc0 := 26) (pc' := 30) rfl (hb hby at_26) (by decide) (by decide) ?_
      show Steps p.tables e below (s₁.setTop (mkF m 30 #[.val (.int p1), .val (.int p2), .val (.int p3), .val (.int p4), .val (.int p5), .val (.int shq), .unset, .unset, .unset, .unset, .unset, .unset, .unset, .unset, .unset, .unset, .unset, .unset, .unset, .unset, .unset, .unset, .unset, .unset, .unset, .unset, .unset, .unset, .unset, .unset, .unset, .unset, .unset, .unset, .unset, .unset] [(.int (1 : Int32))])) _
      simp only [if_neg hc6] at k
      exact k
  obtain ⟨shg, h_shg⟩ : ∃ z : Int32, z = (if (((p4.toUInt32 >>> ((13 : Int32) &&& 31).toUInt32).toInt32) &&& (1 : Int32)) = (0 : Int32) then (0 : Int32) else (1 : Int32)) := ⟨_, rfl⟩
  have K8 : ∀ t, Steps p.tables e below (s₁.setTop (mkF m 30 #[.val (.int p1), .val (.int p2), .val (.int p3), .val (.int p4), .val (.int p5), .val (.int shq), .unset, .unset, .unset, .unset, .unset, .unset, .unset, .unset, .unset, .unset, .unset, .unset, .unset, .unset, .unset, .unset, .unset, .unset, .unset, .unset, .unset, .unset, .unset, .unset, .unset, .unset, .unset, .unset, .unset, .unset] [(.int shg)])) t → Steps p.tables e below G t := by rw [h_shg]; exact K7
  have K9 : ∀ t, Steps p.tables e below (s₁.setTop (mkF m 38 #[.val (.int p1), .val (.int p2), .val (.int p3), .val (.int p4), .val (.int p5), .val (.int shq), .val (.int shg), .unset, .unset, .unset, .unset, .unset, .unset, .unset, .unset, .unset, .unset, .unset, .unset, .unset, .unset, .unset, .unset, .unset, .unset, .unset, .unset, .unset, .unset, .unset, .unset, .unset, .unset, .unset, .unset, .unset] [(.int (((p4.toUInt32 >>> ((14 : Int32) &&& 31).toUInt32).toInt32) &&& (1 : Int32)))])) t → Steps p.tables e below G t := by
    intro t k
    refine K8 t ?_
    show Steps p.tables e below (s₁.setTop (mkF m 30 #[.val (.int p1), .val (.int p2), .val (.int p3), .val (.int p4), .val (.int p5), .val (.int shq), .unset, .unset, .unset, .unset, .unset, .unset, .unset, .unset, .unset, .unset, .unset, .unset, .unset, .unset, .unset, .unset, .unset, .unset, .unset, .unset, .unset, .unset, .unset, .unset, .unset, .unset, .unset, .unset, .unset, .unset] [(.int shg)])) _
    refine XS.istore X0.here hx rfl (hb hby at_30) rfl (l' := #[.val (.int p1), .val (.int p2), .val (.int p3), .val (.int p4), .val (.int p5), .val (.int shq), .val (.int shg), .unset, .unset, .unset, .unset, .unset, .unset, .unset, .unset, .unset, .unset, .unset, .unset, .unset, .unset, .unset, .unset, .unset, .unset, .unset, .unset, .unset, .unset, .unset, .unset, .unset, .unset, .unset, .unset, .unset]) rfl ?_
    show Steps p.tables e below (s₁.setTop (mkF m 32 #[.val (.int p1), .val (.int p2), .val (.int p3), .val (.int p4), .val (.int p5), .val (.int shq), .val (.int shg), .unset, .unset, .unset, .unset, .unset, .unset, .unset, .unset, .unset, .unset, .unset, .unset, .unset, .unset, .unset, .unset, .unset, .unset, .unset, .unset, .unset, .unset, .unset, .unset, .unset, .unset, .unset, .unset, .unset] [])) _
    refine XS.iloadN X0.here hx rfl (hb hby at_32) rfl ?_
    show Steps p.tables e below (s₁.setTop (mkF m 33 #[.val (.int p1), .val (.int p2), .val (.int p3), .val (.int p4), .val (.int p5), .val (.int shq), .val (.int shg), .unset, .unset, .unset, .unset, .unset, .unset, .unset, .unset, .unset, .unset, .unset, .unset, .unset, .unset, .unset, .unset, .unset, .unset, .unset, .unset, .unset, .unset, .unset, .unset, .unset, .unset, .unset, .unset, .unset] [(.int p4)])) _
    refine XS.bipush X0.here hx rfl (hb hby at_33) ?_
    show Steps p.tables e below (s₁.setTop (mkF m 35 #[.val (.int p1), .val (.int p2), .val (.int p3), .val (.int p4), .val (.int p5), .val (.int shq), .val (.int shg), .unset, .unset, .unset, .unset, .unset, .unset, .unset, .unset, .unset, .unset, .unset, .unset, .unset, .unset, .unset, .unset, .unset, .unset, .unset, .unset, .unset, .unset, .unset, .unset, .unset, .unset, .unset, .unset, .unset] [(.int (14 : Int32)), (.int p4)])) _
    refine XS.iushr X0.here hx rfl (hb hby at_35) rfl ?_
    show Steps p.tables e below (s₁.setTop (mkF m 36 #[.val (.int p1), .val (.int p2), .val (.int p3), .val (.int p4), .val (.int p5), .val (.int shq), .val (.int shg), .unset, .unset, .unset, .unset, .unset, .unset, .unset, .unset, .unset, .unset, .unset, .unset, .unset, .unset, .unset, .unset, .unset, .unset, .unset, .unset, .unset, .unset, .unset, .unset, .unset, .unset, .unset, .unset, .unset] [(.int ((p4.toUInt32 >>> ((14 : Int32) &&& 31).toUInt32).toInt32))])) _
    refine XS.iconst X0.here hx rfl (hb hby at_36) ?_
    show Steps p.tables e below (s₁.setTop (mkF m 37 #[.val (.int p1), .val (.int p2), .val (.int p3), .val (.int p4), .val (.int p5), .val (.int shq), .val (.int shg), .unset, .unset, .unset, .unset, .unset, .unset, .unset, .unset, .unset, .unset, .unset, .unset, .unset, .unset, .unset, .unset, .unset, .unset, .unset, .unset, .unset, .unset, .unset, .unset, .unset, .unset, .unset, .unset, .unset] [(.int (1 : Int32)), (.int ((p4.toUInt32 >>> ((14 : Int32) &&& 31).toUInt32).toInt32))])) _
    refine XS.iand X0.here hx rfl (hb hby at_37) rfl ?_
    show Steps p.tables e below (s₁.setTop (mkF m 38 #[.val (.int p1), .val (.int p2), .val (.int p3), .val (.int p4), .val (.int p5), .val (.int shq), .val (.int shg), .unset, .unset, .unset, .unset, .unset, .unset, .unset, .unset, .unset, .unset, .unset, .unset, .unset, .unset, .unset, .unset, .unset, .unset, .unset, .unset, .unset, .unset, .unset, .unset, .unset, .unset, .unset, .unset, .unset] [(.int (((p4.toUInt32 >>> ((14 : Int32) &&& 31).toUInt32).toInt32) &&& (1 : Int32)))])) _
    exact k
  have K11 : ∀ t, Steps p.tables e below (s₁.setTop (mkF m 46 #[.val (.int p1), .val (.int p2), .val (.int p3), .val (.int p4), .val (.int p5), .val (.int shq), .val (.int shg), .unset, .unset, .unset, .unset, .unset, .unset, .unset, .unset, .unset, .unset, .unset, .unset, .unset, .unset, .unset, .unset, .unset, .unset, .unset, .unset, .unset, .unset, .unset, .unset, .unset, .unset, .unset, .unset, .unset] [(.int (if (((p4.toUInt32 >>> ((14 : Int32) &&& 31).toUInt32).toInt32) &&& (1 : Int32)) = (0 : Int32) then (0 : Int32) else (1 : Int32)))])) t → Steps p.tables e below G t := by
    intro t k
    refine K9 t ?_
    by_cases hc10 : (((p4.toUInt32 >>> ((14 : Int32) &&& 31).toUInt32).toInt32) &&& (1 : Int32)) = (0 : Int32)
    · show Steps p.tables e below (s₁.setTop (mkF m 38 #[.val (.int p1), .val (.int p2), .val (.int p3), .val (.int p4), .val (.int p5), .val (.int shq), .val (.int shg), .unset, .unset, .unset, .unset, .unset, .unset, .unset, .unset, .unset, .unset, .unset, .unset, .unset, .unset, .unset, .unset, .unset, .unset, .unset, .unset, .unset, .unset, .unset, .unset, .unset, .unset, .unset, .unset, .unset] [(.int (((p4.toUInt32 >>> ((14 : Int32) &&& 31).toUInt32).toInt32) &&& (1 : Int32)))])) _
      refine XS.ifYes X0.here hx rfl (pc0 := 38) (pc' := 45) rfl (hb hby at_38) rfl ((if0 _ _).trans (teq hc10).1) (by decide) (by decide) ?_
      show Steps p.tables e below (s₁.setTop (mkF m 45 #[.val (.int p1), .val (.int p2), .val (.int p3), .val (.int p4), .val (.int p5), .val (.int shq), .val (.int shg), .unset, .unset, .unset, .unset, .unset, .unset, .unset, .unset, .unset, .unset, .unset, .unset, .unset, .unset, .unset, .unset, .unset, .unset, .unset, .unset, .unset, .unset, .unset, .unset, .unset, .unset, .unset, .unset, .unset] [])) _
      refine XS.iconst X0.here hx rfl (hb hby at_45) ?_
      show Steps p.tables e below (s₁.setTop (mkF m 46 #[.val (.int p1), .val (.int p2), .val (.int p3), .val (.int p4), .val (.int p5), .val (.int shq), .val (.int shg), .unset, .unset, .unset, .unset, .unset, .unset, .unset, .unset, .unset, .unset, .unset, .unset, .unset, .unset, .unset, .unset, .unset, .unset, .unset, .unset, .unset, .unset, .unset, .unset, .unset, .unset, .unset, .unset, .unset] [(.int (0 : Int32))])) _
      simp only [if_pos hc10] at k
      exact k
    · show Steps p.tables e below (s₁.setTop (mkF m 38 #[.val (.int p1), .val (.int p2), .val (.int p3), .val (.int p4), .val (.int p5), .val (.int shq), .val (.int shg), .unset, .unset, .unset, .unset, .unset, .unset, .unset, .unset, .unset, .unset, .unset, .unset, .unset, .unset, .unset, .unset, .unset, .unset, .unset, .unset, .unset, .unset, .unset, .unset, .unset, .unset, .unset, .unset, .unset] [(.int (((p4.toUInt32 >>> ((14 : Int32) &&& 31).toUInt32).toInt32) &&& (1 : Int32)))])) _
      refine XS.ifNo X0.here hx rfl (hb hby at_38) rfl ((if0 _ _).trans (feq hc10).1) ?_
      show Steps p.tables e below (s₁.setTop (mkF m 41 #[.val (.int p1), .val (.int p2), .val (.int p3), .val (.int p4), .val (.int p5), .val (.int shq), .val (.int shg), .unset, .unset, .unset, .unset, .unset, .unset, .unset, .unset, .unset, .unset, .unset, .unset, .unset, .unset, .unset, .unset, .unset, .unset, .unset, .unset, .unset, .unset, .unset, .unset, .unset, .unset, .unset, .unset, .unset] [])) _
      refine XS.iconst X0.here hx rfl (hb hby at_41) ?_
      show Steps p.tables e below (s₁.setTop (mkF m 42 #[.val (.int p1), .val (.int p2), .val (.int p3), .val (.int p4), .val (.int p5), .val (.int shq), .val (.int shg), .unset, .unset, .unset, .unset, .unset, .unset, .unset, .unset, .unset, .unset, .unset, .unset, .unset, .unset, .unset, .unset, .unset, .unset, .unset, .unset, .unset, .unset, .unset, .unset, .unset, .unset, .unset, .unset, .unset] [(.int (1 : Int32))])) _
      refine XS.goto X0.here hx rfl (pc0 := 42) (pc' := 46) rfl (hb hby at_42) (by decide) (by decide) ?_
      show Steps p.tables e below (s₁.setTop (mkF m 46 #[.val (.int p1), .val (.int p2), .val (.int p3), .val (.int p4), .val (.int p5), .val (.int shq), .val (.int shg), .unset, .unset, .unset, .unset, .unset, .unset, .unset, .unset, .unset, .unset, .unset, .unset, .unset, .unset, .unset, .unset, .unset, .unset, .unset, .unset, .unset, .unset, .unset, .unset, .unset, .unset, .unset, .unset, .unset] [(.int (1 : Int32))])) _
      simp only [if_neg hc10] at k
      exact k
  obtain ⟨shp, h_shp⟩ : ∃ z : Int32, z = (if (((p4.toUInt32 >>> ((14 : Int32) &&& 31).toUInt32).toInt32) &&& (1 : Int32)) = (0 : Int32) then (0 : Int32) else (1 : Int32)) := ⟨_, rfl⟩
  have K12 : ∀ t, Steps p.tables e below (s₁.setTop (mkF m 46 #[.val (.int p1), .val (.int p2), .val (.int p3), .val (.int p4), .val (.int p5), .val (.int shq), .val (.int shg), .unset, .unset, .unset, .unset, .unset, .unset, .unset, .unset, .unset, .unset, .unset, .unset, .unset, .unset, .unset, .unset, .unset, .unset, .unset, .unset, .unset, .unset, .unset, .unset, .unset, .unset, .unset, .unset, .unset] [(.int shp)])) t → Steps p.tables e below G t := by rw [h_shp]; exact K11
  have K13 : ∀ t, Steps p.tables e below (s₁.setTop (mkF m 53 #[.val (.int p1), .val (.int p2), .val (.int p3), .val (.int p4), .val (.int p5), .val (.int shq), .val (.int shg), .val (.int shp), .unset, .unset, .unset, .unset, .unset, .unset, .unset, .unset, .unset, .unset, .unset, .unset, .unset, .unset, .unset, .unset, .unset, .unset, .unset, .unset, .unset, .unset, .unset, .unset, .unset, .unset, .unset, .unset] [(.int (p1 &&& (255 : Int32)))])) t → Steps p.tables e below G t := by
    intro t k
    refine K12 t ?_
    show Steps p.tables e below (s₁.setTop (mkF m 46 #[.val (.int p1), .val (.int p2), .val (.int p3), .val (.int p4), .val (.int p5), .val (.int shq), .val (.int shg), .unset, .unset, .unset, .unset, .unset, .unset, .unset, .unset, .unset, .unset, .unset, .unset, .unset, .unset, .unset, .unset, .unset, .unset, .unset, .unset, .unset, .unset, .unset, .unset, .unset, .unset, .unset, .unset, .unset] [(.int shp)])) _
    refine XS.istore X0.here hx rfl (hb hby at_46) rfl (l' := #[.val (.int p1), .val (.int p2), .val (.int p3), .val (.int p4), .val (.int p5), .val (.int shq), .val (.int shg), .val (.int shp), .unset, .unset, .unset, .unset, .unset, .unset, .unset, .unset, .unset, .unset, .unset, .unset, .unset, .unset, .unset, .unset, .unset, .unset, .unset, .unset, .unset, .unset, .unset, .unset, .unset, .unset, .unset, .unset]) rfl ?_
    show Steps p.tables e below (s₁.setTop (mkF m 48 #[.val (.int p1), .val (.int p2), .val (.int p3), .val (.int p4), .val (.int p5), .val (.int shq), .val (.int shg), .val (.int shp), .unset, .unset, .unset, .unset, .unset, .unset, .unset, .unset, .unset, .unset, .unset, .unset, .unset, .unset, .unset, .unset, .unset, .unset, .unset, .unset, .unset, .unset, .unset, .unset, .unset, .unset, .unset, .unset] [])) _
    refine XS.iloadN X0.here hx rfl (hb hby at_48) rfl ?_
    show Steps p.tables e below (s₁.setTop (mkF m 49 #[.val (.int p1), .val (.int p2), .val (.int p3), .val (.int p4), .val (.int p5), .val (.int shq), .val (.int shg), .val (.int shp), .unset, .unset, .unset, .unset, .unset, .unset, .unset, .unset, .unset, .unset, .unset, .unset, .unset, .unset, .unset, .unset, .unset, .unset, .unset, .unset, .unset, .unset, .unset, .unset, .unset, .unset, .unset, .unset] [(.int p1)])) _
    refine XS.sipush X0.here hx rfl (hb hby at_49) ?_
    show Steps p.tables e below (s₁.setTop (mkF m 52 #[.val (.int p1), .val (.int p2), .val (.int p3), .val (.int p4), .val (.int p5), .val (.int shq), .val (.int shg), .val (.int shp), .unset, .unset, .unset, .unset, .unset, .unset, .unset, .unset, .unset, .unset, .unset, .unset, .unset, .unset, .unset, .unset, .unset, .unset, .unset, .unset, .unset, .unset, .unset, .unset, .unset, .unset, .unset, .unset] [(.int (255 : Int32)), (.int p1)])) _
    refine XS.iand X0.here hx rfl (hb hby at_52) rfl ?_
    show Steps p.tables e below (s₁.setTop (mkF m 53 #[.val (.int p1), .val (.int p2), .val (.int p3), .val (.int p4), .val (.int p5), .val (.int shq), .val (.int shg), .val (.int shp), .unset, .unset, .unset, .unset, .unset, .unset, .unset, .unset, .unset, .unset, .unset, .unset, .unset, .unset, .unset, .unset, .unset, .unset, .unset, .unset, .unset, .unset, .unset, .unset, .unset, .unset, .unset, .unset] [(.int (p1 &&& (255 : Int32)))])) _
    exact k
  obtain ⟨qa0, h_qa0⟩ : ∃ z : Int32, z = (p1 &&& (255 : Int32)) := ⟨_, rfl⟩
  have K14 : ∀ t, Steps p.tables e below (s₁.setTop (mkF m 53 #[.val (.int p1), .val (.int p2), .val (.int p3), .val (.int p4), .val (.int p5), .val (.int shq), .val (.int shg), .val (.int shp), .unset, .unset, .unset, .unset, .unset, .unset, .unset, .unset, .unset, .unset, .unset, .unset, .unset, .unset, .unset, .unset, .unset, .unset, .unset, .unset, .unset, .unset, .unset, .unset, .unset, .unset, .unset, .unset] [(.int qa0)])) t → Steps p.tables e below G t := by rw [h_qa0]; exact K13
  have hb_qa0 := own_255 h_qa0
  have K15 : ∀ t, Steps p.tables e below (s₁.setTop (mkF m 63 #[.val (.int p1), .val (.int p2), .val (.int p3), .val (.int p4), .val (.int p5), .val (.int shq), .val (.int shg), .val (.int shp), .val (.int qa0), .unset, .unset, .unset, .unset, .unset, .unset, .unset, .unset, .unset, .unset, .unset, .unset, .unset, .unset, .unset, .unset, .unset, .unset, .unset, .unset, .unset, .unset, .unset, .unset, .unset, .unset, .unset] [(.int (((p1.toUInt32 >>> ((8 : Int32) &&& 31).toUInt32).toInt32) &&& (255 : Int32)))])) t → Steps p.tables e below G t := by
    intro t k
    refine K14 t ?_
    show Steps p.tables e below (s₁.setTop (mkF m 53 #[.val (.int p1), .val (.int p2), .val (.int p3), .val (.int p4), .val (.int p5), .val (.int shq), .val (.int shg), .val (.int shp), .unset, .unset, .unset, .unset, .unset, .unset, .unset, .unset, .unset, .unset, .unset, .unset, .unset, .unset, .unset, .unset, .unset, .unset, .unset, .unset, .unset, .unset, .unset, .unset, .unset, .unset, .unset, .unset] [(.int qa0)])) _
    refine XS.istore X0.here hx rfl (hb hby at_53) rfl (l' := #[.val (.int p1), .val (.int p2), .val (.int p3), .val (.int p4), .val (.int p5), .val (.int shq), .val (.int shg), .val (.int shp), .val (.int qa0), .unset, .unset, .unset, .unset, .unset, .unset, .unset, .unset, .unset, .unset, .unset, .unset, .unset, .unset, .unset, .unset, .unset, .unset, .unset, .unset, .unset, .unset, .unset, .unset, .unset, .unset, .unset]) rfl ?_
    show Steps p.tables e below (s₁.setTop (mkF m 55 #[.val (.int p1), .val (.int p2), .val (.int p3), .val (.int p4), .val (.int p5), .val (.int shq), .val (.int shg), .val (.int shp), .val (.int qa0), .unset, .unset, .unset, .unset, .unset, .unset, .unset, .unset, .unset, .unset, .unset, .unset, .unset, .unset, .unset, .unset, .unset, .unset, .unset, .unset, .unset, .unset, .unset, .unset, .unset, .unset, .unset] [])) _
    refine XS.iloadN X0.here hx rfl (hb hby at_55) rfl ?_
    show Steps p.tables e below (s₁.setTop (mkF m 56 #[.val (.int p1), .val (.int p2), .val (.int p3), .val (.int p4), .val (.int p5), .val (.int shq), .val (.int shg), .val (.int shp), .val (.int qa0), .unset, .unset, .unset, .unset, .unset, .unset, .unset, .unset, .unset, .unset, .unset, .unset, .unset, .unset, .unset, .unset, .unset, .unset, .unset, .unset, .unset, .unset, .unset, .unset, .unset, .unset, .unset] [(.int p1)])) _
    refine XS.bipush X0.here hx rfl (hb hby at_56) ?_
    show Steps p.tables e below (s₁.setTop (mkF m 58 #[.val (.int p1), .val (.int p2), .val (.int p3), .val (.int p4), .val (.int p5), .val (.int shq), .val (.int shg), .val (.int shp), .val (.int qa0), .unset, .unset, .unset, .unset, .unset, .unset, .unset, .unset, .unset, .unset, .unset, .unset, .unset, .unset, .unset, .unset, .unset, .unset, .unset, .unset, .unset, .unset, .unset, .unset, .unset, .unset, .unset] [(.int (8 : Int32)), (.int p1)])) _
    refine XS.iushr X0.here hx rfl (hb hby at_58) rfl ?_
    show Steps p.tables e below (s₁.setTop (mkF m 59 #[.val (.int p1), .val (.int p2), .val (.int p3), .val (.int p4), .val (.int p5), .val (.int shq), .val (.int shg), .val (.int shp), .val (.int qa0), .unset, .unset, .unset, .unset, .unset, .unset, .unset, .unset, .unset, .unset, .unset, .unset, .unset, .unset, .unset, .unset, .unset, .unset, .unset, .unset, .unset, .unset, .unset, .unset, .unset, .unset, .unset] [(.int ((p1.toUInt32 >>> ((8 : Int32) &&& 31).toUInt32).toInt32))])) _
    refine XS.sipush X0.here hx rfl (hb hby at_59) ?_
    show Steps p.tables e below (s₁.setTop (mkF m 62 #[.val (.int p1), .val (.int p2), .val (.int p3), .val (.int p4), .val (.int p5), .val (.int shq), .val (.int shg), .val (.int shp), .val (.int qa0), .unset, .unset, .unset, .unset, .unset, .unset, .unset, .unset, .unset, .unset, .unset, .unset, .unset, .unset, .unset, .unset, .unset, .unset, .unset, .unset, .unset, .unset, .unset, .unset, .unset, .unset, .unset] [(.int (255 : Int32)), (.int ((p1.toUInt32 >>> ((8 : Int32) &&& 31).toUInt32).toInt32))])) _
    refine XS.iand X0.here hx rfl (hb hby at_62) rfl ?_
    show Steps p.tables e below (s₁.setTop (mkF m 63 #[.val (.int p1), .val (.int p2), .val (.int p3), .val (.int p4), .val (.int p5), .val (.int shq), .val (.int shg), .val (.int shp), .val (.int qa0), .unset, .unset, .unset, .unset, .unset, .unset, .unset, .unset, .unset, .unset, .unset, .unset, .unset, .unset, .unset, .unset, .unset, .unset, .unset, .unset, .unset, .unset, .unset, .unset, .unset, .unset, .unset] [(.int (((p1.toUInt32 >>> ((8 : Int32) &&& 31).toUInt32).toInt32) &&& (255 : Int32)))])) _
    exact k
  obtain ⟨qa1, h_qa1⟩ : ∃ z : Int32, z = (((p1.toUInt32 >>> ((8 : Int32) &&& 31).toUInt32).toInt32) &&& (255 : Int32)) := ⟨_, rfl⟩
  have K16 : ∀ t, Steps p.tables e below (s₁.setTop (mkF m 63 #[.val (.int p1), .val (.int p2), .val (.int p3), .val (.int p4), .val (.int p5), .val (.int shq), .val (.int shg), .val (.int shp), .val (.int qa0), .unset, .unset, .unset, .unset, .unset, .unset, .unset, .unset, .unset, .unset, .unset, .unset, .unset, .unset, .unset, .unset, .unset, .unset, .unset, .unset, .unset, .unset, .unset, .unset, .unset, .unset, .unset] [(.int qa1)])) t → Steps p.tables e below G t := by rw [h_qa1]; exact K15
  have hb_qa1 := own_255 h_qa1
  have K17 : ∀ t, Steps p.tables e below (s₁.setTop (mkF m 66 #[.val (.int p1), .val (.int p2), .val (.int p3), .val (.int p4), .val (.int p5), .val (.int shq), .val (.int shg), .val (.int shp), .val (.int qa0), .val (.int qa1), .unset, .unset, .unset, .unset, .unset, .unset, .unset, .unset, .unset, .unset, .unset, .unset, .unset, .unset, .unset, .unset, .unset, .unset, .unset, .unset, .unset, .unset, .unset, .unset, .unset, .unset] [(.int p4)])) t → Steps p.tables e below G t := by
    intro t k
    refine K16 t ?_
    show Steps p.tables e below (s₁.setTop (mkF m 63 #[.val (.int p1), .val (.int p2), .val (.int p3), .val (.int p4), .val (.int p5), .val (.int shq), .val (.int shg), .val (.int shp), .val (.int qa0), .unset, .unset, .unset, .unset, .unset, .unset, .unset, .unset, .unset, .unset, .unset, .unset, .unset, .unset, .unset, .unset, .unset, .unset, .unset, .unset, .unset, .unset, .unset, .unset, .unset, .unset, .unset] [(.int qa1)])) _
    refine XS.istore X0.here hx rfl (hb hby at_63) rfl (l' := #[.val (.int p1), .val (.int p2), .val (.int p3), .val (.int p4), .val (.int p5), .val (.int shq), .val (.int shg), .val (.int shp), .val (.int qa0), .val (.int qa1), .unset, .unset, .unset, .unset, .unset, .unset, .unset, .unset, .unset, .unset, .unset, .unset, .unset, .unset, .unset, .unset, .unset, .unset, .unset, .unset, .unset, .unset, .unset, .unset, .unset, .unset]) rfl ?_
    show Steps p.tables e below (s₁.setTop (mkF m 65 #[.val (.int p1), .val (.int p2), .val (.int p3), .val (.int p4), .val (.int p5), .val (.int shq), .val (.int shg), .val (.int shp), .val (.int qa0), .val (.int qa1), .unset, .unset, .unset, .unset, .unset, .unset, .unset, .unset, .unset, .unset, .unset, .unset, .unset, .unset, .unset, .unset, .unset, .unset, .unset, .unset, .unset, .unset, .unset, .unset, .unset, .unset] [])) _
    refine XS.iloadN X0.here hx rfl (hb hby at_65) rfl ?_
    show Steps p.tables e below (s₁.setTop (mkF m 66 #[.val (.int p1), .val (.int p2), .val (.int p3), .val (.int p4), .val (.int p5), .val (.int shq), .val (.int shg), .val (.int shp), .val (.int qa0), .val (.int qa1), .unset, .unset, .unset, .unset, .unset, .unset, .unset, .unset, .unset, .unset, .unset, .unset, .unset, .unset, .unset, .unset, .unset, .unset, .unset, .unset, .unset, .unset, .unset, .unset, .unset, .unset] [(.int p4)])) _
    exact k
  obtain ⟨_, _, ⟨T18, L18, kk18, nn18⟩, -, X18, ⟨Lc18, hQ18, lq18, yq18, zq18⟩, st18⟩ := Jvm.LawKit.callS X0 hx (y := (⟨"com/example/conq/conq/model/GroupPartitionEqualsPinLaw", "len", "(I)I"⟩ : MethodName)) hown (mvT hZ (hw _ (List.mem_of_getElem? (i := 0) rfl))) (mvT hZ (hw _ (List.mem_of_getElem? (i := 1) rfl))) (mvT hZ (hw _ (List.mem_of_getElem? (i := 2) rfl))) (mvT hZ (hw _ (List.mem_of_getElem? (i := 3) rfl))) (by decide) (backOf (W := 0) (rm1 l Z a0 hw [] p4 h0 n0 Z0 ) hZ (hw _ (List.mem_of_getElem? (i := 3) rfl)) (hw _ (List.mem_of_getElem? (i := 2) rfl)) (by decide) (by decide)) (g := (mkF m 66 #[.val (.int p1), .val (.int p2), .val (.int p3), .val (.int p4), .val (.int p5), .val (.int shq), .val (.int shg), .val (.int shp), .val (.int qa0), .val (.int qa1), .unset, .unset, .unset, .unset, .unset, .unset, .unset, .unset, .unset, .unset, .unset, .unset, .unset, .unset, .unset, .unset, .unset, .unset, .unset, .unset, .unset, .unset, .unset, .unset, .unset, .unset] [(.int p4)])) rfl (by rw [hml]; rfl) (argsL := [(.int p4)]) (rest := []) (lenOf pd_8 rfl) rfl (by show 2 * 0 + _ ≤ _; exact Nat.le_of_eq rfl) (hb hby at_66) (fun _ _ => ⟨rfl, e0, (by decide : 0 + 0 ≤ _), (by decide : 0 + 0 ≤ _)⟩)
  dsimp only [Pt.U, Pt.locs, Pt.cells, Pt.slots] at X18 lq18 yq18 zq18 st18 hQ18
  subst lq18 yq18 zq18
  obtain ⟨rfl, Nq18, e18⟩ := hQ18
  have N19 := Fr.app N0 Nq18
  have K20 : ∀ t, Steps p.tables e below (T18.setTop (mkF m 69 #[.val (.int p1), .val (.int p2), .val (.int p3), .val (.int p4), .val (.int p5), .val (.int shq), .val (.int shg), .val (.int shp), .val (.int qa0), .val (.int qa1), .unset, .unset, .unset, .unset, .unset, .unset, .unset, .unset, .unset, .unset, .unset, .unset, .unset, .unset, .unset, .unset, .unset, .unset, .unset, .unset, .unset, .unset, .unset, .unset, .unset, .unset] [(.int ((p4 &&& (3 : Int32)) % (3 : Int32)))])) t → Steps p.tables e below G t := fun t k => K17 t (st18 _ k)
  obtain ⟨qla, h_qla⟩ : ∃ z : Int32, z = ((p4 &&& (3 : Int32)) % (3 : Int32)) := ⟨_, rfl⟩
  have K21 : ∀ t, Steps p.tables e below (T18.setTop (mkF m 69 #[.val (.int p1), .val (.int p2), .val (.int p3), .val (.int p4), .val (.int p5), .val (.int shq), .val (.int shg), .val (.int shp), .val (.int qa0), .val (.int qa1), .unset, .unset, .unset, .unset, .unset, .unset, .unset, .unset, .unset, .unset, .unset, .unset, .unset, .unset, .unset, .unset, .unset, .unset, .unset, .unset, .unset, .unset, .unset, .unset, .unset, .unset] [(.int qla)])) t → Steps p.tables e below G t := by rw [h_qla]; exact K20
  have hl_qla := own_l3 h_qla
  have K22 : ∀ t, Steps p.tables e below (T18.setTop (mkF m 73 #[.val (.int p1), .val (.int p2), .val (.int p3), .val (.int p4), .val (.int p5), .val (.int shq), .val (.int shg), .val (.int shp), .val (.int qa0), .val (.int qa1), .val (.int qla), .unset, .unset, .unset, .unset, .unset, .unset, .unset, .unset, .unset, .unset, .unset, .unset, .unset, .unset, .unset, .unset, .unset, .unset, .unset, .unset, .unset, .unset, .unset, .unset, .unset] [(.int shq)])) t → Steps p.tables e below G t := by
    intro t k
    refine K21 t ?_
    show Steps p.tables e below (T18.setTop (mkF m 69 #[.val (.int p1), .val (.int p2), .val (.int p3), .val (.int p4), .val (.int p5), .val (.int shq), .val (.int shg), .val (.int shp), .val (.int qa0), .val (.int qa1), .unset, .unset, .unset, .unset, .unset, .unset, .unset, .unset, .unset, .unset, .unset, .unset, .unset, .unset, .unset, .unset, .unset, .unset, .unset, .unset, .unset, .unset, .unset, .unset, .unset, .unset] [(.int qla)])) _
    refine XS.istore X18.here hx rfl (hb hby at_69) rfl (l' := #[.val (.int p1), .val (.int p2), .val (.int p3), .val (.int p4), .val (.int p5), .val (.int shq), .val (.int shg), .val (.int shp), .val (.int qa0), .val (.int qa1), .val (.int qla), .unset, .unset, .unset, .unset, .unset, .unset, .unset, .unset, .unset, .unset, .unset, .unset, .unset, .unset, .unset, .unset, .unset, .unset, .unset, .unset, .unset, .unset, .unset, .unset, .unset]) rfl ?_
    show Steps p.tables e below (T18.setTop (mkF m 71 #[.val (.int p1), .val (.int p2), .val (.int p3), .val (.int p4), .val (.int p5), .val (.int shq), .val (.int shg), .val (.int shp), .val (.int qa0), .val (.int qa1), .val (.int qla), .unset, .unset, .unset, .unset, .unset, .unset, .unset, .unset, .unset, .unset, .unset, .unset, .unset, .unset, .unset, .unset, .unset, .unset, .unset, .unset, .unset, .unset, .unset, .unset, .unset] [])) _
    refine XS.iload X18.here hx rfl (hb hby at_71) rfl ?_
    show Steps p.tables e below (T18.setTop (mkF m 73 #[.val (.int p1), .val (.int p2), .val (.int p3), .val (.int p4), .val (.int p5), .val (.int shq), .val (.int shg), .val (.int shp), .val (.int qa0), .val (.int qa1), .val (.int qla), .unset, .unset, .unset, .unset, .unset, .unset, .unset, .unset, .unset, .unset, .unset, .unset, .unset, .unset, .unset, .unset, .unset, .unset, .unset, .unset, .unset, .unset, .unset, .unset, .unset] [(.int shq)])) _
    exact k
  have K24 : ∀ t, Steps p.tables e below (T18.setTop (mkF m 89 #[.val (.int p1), .val (.int p2), .val (.int p3), .val (.int p4), .val (.int p5), .val (.int shq), .val (.int shg), .val (.int shp), .val (.int qa0), .val (.int qa1), .val (.int qla), .unset, .unset, .unset, .unset, .unset, .unset, .unset, .unset, .unset, .unset, .unset, .unset, .unset, .unset, .unset, .unset, .unset, .unset, .unset, .unset, .unset, .unset, .unset, .unset, .unset] [(.int (if shq = (0 : Int32) then (((p1.toUInt32 >>> ((16 : Int32) &&& 31).toUInt32).toInt32) &&& (255 : Int32)) else qa0))])) t → Steps p.tables e below G t := by
    intro t k
    refine K22 t ?_
    by_cases hc23 : shq = (0 : Int32)
    · show Steps p.tables e below (T18.setTop (mkF m 73 #[.val (.int p1), .val (.int p2), .val (.int p3), .val (.int p4), .val (.int p5), .val (.int shq), .val (.int shg), .val (.int shp), .val (.int qa0), .val (.int qa1), .val (.int qla), .unset, .unset, .unset, .unset, .unset, .unset, .unset, .unset, .unset, .unset, .unset, .unset, .unset, .unset, .unset, .unset, .unset, .unset, .unset, .unset, .unset, .unset, .unset, .unset, .unset] [(.int shq)])) _
      refine XS.ifYes X18.here hx rfl (pc0 := 73) (pc' := 81) rfl (hb hby at_73) rfl ((if0 _ _).trans (teq hc23).1) (by decide) (by decide) ?_
      show Steps p.tables e below (T18.setTop (mkF m 81 #[.val (.int p1), .val (.int p2), .val (.int p3), .val (.int p4), .val (.int p5), .val (.int shq), .val (.int shg), .val (.int shp), .val (.int qa0), .val (.int qa1), .val (.int qla), .unset, .unset, .unset, .unset, .unset, .unset, .unset, .unset, .unset, .unset, .unset, .unset, .unset, .unset, .unset, .unset, .unset, .unset, .unset, .unset, .unset, .unset, .unset, .unset, .unset] [])) _
      refine XS.iloadN X18.here hx rfl (hb hby at_81) rfl ?_
      show Steps p.tables e below (T18.setTop (mkF m 82 #[.val (.int p1), .val (.int p2), .val (.int p3), .val (.int p4), .val (.int p5), .val (.int shq), .val (.int shg), .val (.int shp), .val (.int qa0), .val (.int qa1), .val (.int qla), .unset, .unset, .unset, .unset, .unset, .unset, .unset, .unset, .unset, .unset, .unset, .unset, .unset, .unset, .unset, .unset, .unset, .unset, .unset, .unset, .unset, .unset, .unset, .unset, .unset] [(.int p1)])) _
      refine XS.bipush X18.here hx rfl (hb hby at_82) ?_
      show Steps p.tables e below (T18.setTop (mkF m 84 #[.val (.int p1), .val (.int p2), .val (.int p3), .val (.int p4), .val (.int p5), .val (.int shq), .val (.int shg), .val (.int shp), .val (.int qa0), .val (.int qa1), .val (.int qla), .unset, .unset, .unset, .unset, .unset, .unset, .unset, .unset, .unset, .unset, .unset, .unset, .unset, .unset, .unset, .unset, .unset, .unset, .unset, .unset, .unset, .unset, .unset, .unset, .unset] [(.int (16 : Int32)), (.int p1)])) _
      refine XS.iushr X18.here hx rfl (hb hby at_84) rfl ?_
      show Steps p.tables e below (T18.setTop (mkF m 85 #[.val (.int p1), .val (.int p2), .val (.int p3), .val (.int p4), .val (.int p5), .val (.int shq), .val (.int shg), .val (.int shp), .val (.int qa0), .val (.int qa1), .val (.int qla), .unset, .unset, .unset, .unset, .unset, .unset, .unset, .unset, .unset, .unset, .unset, .unset, .unset, .unset, .unset, .unset, .unset, .unset, .unset, .unset, .unset, .unset, .unset, .unset, .unset] [(.int ((p1.toUInt32 >>> ((16 : Int32) &&& 31).toUInt32).toInt32))])) _
      refine XS.sipush X18.here hx rfl (hb hby at_85) ?_
      show Steps p.tables e below (T18.setTop (mkF m 88 #[.val (.int p1), .val (.int p2), .val (.int p3), .val (.int p4), .val (.int p5), .val (.int shq), .val (.int shg), .val (.int shp), .val (.int qa0), .val (.int qa1), .val (.int qla), .unset, .unset, .unset, .unset, .unset, .unset, .unset, .unset, .unset, .unset, .unset, .unset, .unset, .unset, .unset, .unset, .unset, .unset, .unset, .unset, .unset, .unset, .unset, .unset, .unset] [(.int (255 : Int32)), (.int ((p1.toUInt32 >>> ((16 : Int32) &&& 31).toUInt32).toInt32))])) _
      refine XS.iand X18.here hx rfl (hb hby at_88) rfl ?_
      show Steps p.tables e below (T18.setTop (mkF m 89 #[.val (.int p1), .val (.int p2), .val (.int p3), .val (.int p4), .val (.int p5), .val (.int shq), .val (.int shg), .val (.int shp), .val (.int qa0), .val (.int qa1), .val (.int qla), .unset, .unset, .unset, .unset, .unset, .unset, .unset, .unset, .unset, .unset, .unset, .unset, .unset, .unset, .unset, .unset, .unset, .unset, .unset, .unset, .unset, .unset, .unset, .unset, .unset] [(.int (((p1.toUInt32 >>> ((16 : Int32) &&& 31).toUInt32).toInt32) &&& (255 : Int32)))])) _
      simp only [if_pos hc23] at k
      exact k
    · show Steps p.tables e below (T18.setTop (mkF m 73 #[.val (.int p1), .val (.int p2), .val (.int p3), .val (.int p4), .val (.int p5), .val (.int shq), .val (.int shg), .val (.int shp), .val (.int qa0), .val (.int qa1), .val (.int qla), .unset, .unset, .unset, .unset, .unset, .unset, .unset, .unset, .unset, .unset, .unset, .unset, .unset, .unset, .unset, .unset, .unset, .unset, .unset, .unset, .unset, .unset, .unset, .unset, .unset] [(.int shq)])) _
      refine XS.ifNo X18.here hx rfl (hb hby at_73) rfl ((if0 _ _).trans (feq hc23).1) ?_
      show Steps p.tables e below (T18.setTop (mkF m 76 #[.val (.int p1), .val (.int p2), .val (.int p3), .val (.int p4), .val (.int p5), .val (.int shq), .val (.int shg), .val (.int shp), .val (.int qa0), .val (.int qa1), .val (.int qla), .unset, .unset, .unset, .unset, .unset, .unset, .unset, .unset, .unset, .unset, .unset, .unset, .unset, .unset, .unset, .unset, .unset, .unset, .unset, .unset, .unset, .unset, .unset, .unset, .unset] [])) _
      refine XS.iload X18.here hx rfl (hb hby at_76) rfl ?_
      show Steps p.tables e below (T18.setTop (mkF m 78 #[.val (.int p1), .val (.int p2), .val (.int p3), .val (.int p4), .val (.int p5), .val (.int shq), .val (.int shg), .val (.int shp), .val (.int qa0), .val (.int qa1), .val (.int qla), .unset, .unset, .unset, .unset, .unset, .unset, .unset, .unset, .unset, .unset, .unset, .unset, .unset, .unset, .unset, .unset, .unset, .unset, .unset, .unset, .unset, .unset, .unset, .unset, .unset] [(.int qa0)])) _
      refine XS.goto X18.here hx rfl (pc0 := 78) (pc' := 89) rfl (hb hby at_78) (by decide) (by decide) ?_
      show Steps p.tables e below (T18.setTop (mkF m 89 #[.val (.int p1), .val (.int p2), .val (.int p3), .val (.int p4), .val (.int p5), .val (.int shq), .val (.int shg), .val (.int shp), .val (.int qa0), .val (.int qa1), .val (.int qla), .unset, .unset, .unset, .unset, .unset, .unset, .unset, .unset, .unset, .unset, .unset, .unset, .unset, .unset, .unset, .unset, .unset, .unset, .unset, .unset, .unset, .unset, .unset, .unset, .unset] [(.int qa0)])) _
      simp only [if_neg hc23] at k
      exact k
  obtain ⟨qb0, h_qb0⟩ : ∃ z : Int32, z = (if shq = (0 : Int32) then (((p1.toUInt32 >>> ((16 : Int32) &&& 31).toUInt32).toInt32) &&& (255 : Int32)) else qa0) := ⟨_, rfl⟩
  have K25 : ∀ t, Steps p.tables e below (T18.setTop (mkF m 89 #[.val (.int p1), .val (.int p2), .val (.int p3), .val (.int p4), .val (.int p5), .val (.int shq), .val (.int shg), .val (.int shp), .val (.int qa0), .val (.int qa1), .val (.int qla), .unset, .unset, .unset, .unset, .unset, .unset, .unset, .unset, .unset, .unset, .unset, .unset, .unset, .unset, .unset, .unset, .unset, .unset, .unset, .unset, .unset, .unset, .unset, .unset, .unset] [(.int qb0)])) t → Steps p.tables e below G t := by rw [h_qb0]; exact K24
  have hb_qb0 := own_if255 h_qb0 hb_qa0
  have K26 : ∀ t, Steps p.tables e below (T18.setTop (mkF m 93 #[.val (.int p1), .val (.int p2), .val (.int p3), .val (.int p4), .val (.int p5), .val (.int shq), .val (.int shg), .val (.int shp), .val (.int qa0), .val (.int qa1), .val (.int qla), .val (.int qb0), .unset, .unset, .unset, .unset, .unset, .unset, .unset, .unset, .unset, .unset, .unset, .unset, .unset, .unset, .unset, .unset, .unset, .unset, .unset, .unset, .unset, .unset, .unset, .unset] [(.int shq)])) t → Steps p.tables e below G t := by
    intro t k
    refine K25 t ?_
    show Steps p.tables e below (T18.setTop (mkF m 89 #[.val (.int p1), .val (.int p2), .val (.int p3), .val (.int p4), .val (.int p5), .val (.int shq), .val (.int shg), .val (.int shp), .val (.int qa0), .val (.int qa1), .val (.int qla), .unset, .unset, .unset, .unset, .unset, .unset, .unset, .unset, .unset, .unset, .unset, .unset, .unset, .unset, .unset, .unset, .unset, .unset, .unset, .unset, .unset, .unset, .unset, .unset, .unset] [(.int qb0)])) _
    refine XS.istore X18.here hx rfl (hb hby at_89) rfl (l' := #[.val (.int p1), .val (.int p2), .val (.int p3), .val (.int p4), .val (.int p5), .val (.int shq), .val (.int shg), .val (.int shp), .val (.int qa0), .val (.int qa1), .val (.int qla), .val (.int qb0), .unset, .unset, .unset, .unset, .unset, .unset, .unset, .unset, .unset, .unset, .unset, .unset, .unset, .unset, .unset, .unset, .unset, .unset, .unset, .unset, .unset, .unset, .unset, .unset]) rfl ?_
    show Steps p.tables e below (T18.setTop (mkF m 91 #[.val (.int p1), .val (.int p2), .val (.int p3), .val (.int p4), .val (.int p5), .val (.int shq), .val (.int shg), .val (.int shp), .val (.int qa0), .val (.int qa1), .val (.int qla), .val (.int qb0), .unset, .unset, .unset, .unset, .unset, .unset, .unset, .unset, .unset, .unset, .unset, .unset, .unset, .unset, .unset, .unset, .unset, .unset, .unset, .unset, .unset, .unset, .unset, .unset] [])) _
    refine XS.iload X18.here hx rfl (hb hby at_91) rfl ?_
    show Steps p.tables e below (T18.setTop (mkF m 93 #[.val (.int p1), .val (.int p2), .val (.int p3), .val (.int p4), .val (.int p5), .val (.int shq), .val (.int shg), .val (.int shp), .val (.int qa0), .val (.int qa1), .val (.int qla), .val (.int qb0), .unset, .unset, .unset, .unset, .unset, .unset, .unset, .unset, .unset, .unset, .unset, .unset, .unset, .unset, .unset, .unset, .unset, .unset, .unset, .unset, .unset, .unset, .unset, .unset] [(.int shq)])) _
    exact k
  have K28 : ∀ t, Steps p.tables e below (T18.setTop (mkF m 109 #[.val (.int p1), .val (.int p2), .val (.int p3), .val (.int p4), .val (.int p5), .val (.int shq), .val (.int shg), .val (.int shp), .val (.int qa0), .val (.int qa1), .val (.int qla), .val (.int qb0), .unset, .unset, .unset, .unset, .unset, .unset, .unset, .unset, .unset, .unset, .unset, .unset, .unset, .unset, .unset, .unset, .unset, .unset, .unset, .unset, .unset, .unset, .unset, .unset] [(.int (if shq = (0 : Int32) then (((p1.toUInt32 >>> ((24 : Int32) &&& 31).toUInt32).toInt32) &&& (255 : Int32)) else qa1))])) t → Steps p.tables e below G t := by
    intro t k
    refine K26 t ?_
    by_cases hc27 : shq = (0 : Int32)
    · show Steps p.tables e below (T18.setTop (mkF m 93 #[.val (.int p1), .val (.int p2), .val (.int p3), .val (.int p4), .val (.int p5), .val (.int shq), .val (.int shg), .val (.int shp), .val (.int qa0), .val (.int qa1), .val (.int qla), .val (.int qb0), .unset, .unset, .unset, .unset, .unset, .unset, .unset, .unset, .unset, .unset, .unset, .unset, .unset, .unset, .unset, .unset, .unset, .unset, .unset, .unset, .unset, .unset, .unset, .unset] [(.int shq)])) _
      refine XS.ifYes X18.here hx rfl (pc0 := 93) (pc' := 101) rfl (hb hby at_93) rfl ((if0 _ _).trans (teq hc27).1) (by decide) (by decide) ?_
      show Steps p.tables e below (T18.setTop (mkF m 101 #[.val (.int p1), .val (.int p2), .val (.int p3), .val (.int p4), .val (.int p5), .val (.int shq), .val (.int shg), .val (.int shp), .val (.int qa0), .val (.int qa1), .val (.int qla), .val (.int qb0), .unset, .unset, .unset, .unset, .unset, .unset, .unset, .unset, .unset, .unset, .unset, .unset, .unset, .unset, .unset, .unset, .unset, .unset, .unset, .unset, .unset, .unset, .unset, .unset] [])) _
      refine XS.iloadN X18.here hx rfl (hb hby at_101) rfl ?_
      show Steps p.tables e below (T18.setTop (mkF m 102 #[.val (.int p1), .val (.int p2), .val (.int p3), .val (.int p4), .val (.int p5), .val (.int shq), .val (.int shg), .val (.int shp), .val (.int qa0), .val (.int qa1), .val (.int qla), .val (.int qb0), .unset, .unset, .unset, .unset, .unset, .unset, .unset, .unset, .unset, .unset, .unset, .unset, .unset, .unset, .unset, .unset, .unset, .unset, .unset, .unset, .unset, .unset, .unset, .unset] [(.int p1)])) _
      refine XS.bipush X18.here hx rfl (hb hby at_102) ?_
      show Steps p.tables e below (T18.setTop (mkF m 104 #[.val (.int p1), .val (.int p2), .val (.int p3), .val (.int p4), .val (.int p5), .val (.int shq), .val (.int shg), .val (.int shp), .val (.int qa0), .val (.int qa1), .val (.int qla), .val (.int qb0), .unset, .unset, .unset, .unset, .unset, .unset, .unset, .unset, .unset, .unset, .unset, .unset, .unset, .unset, .unset, .unset, .unset, .unset, .unset, .unset, .unset, .unset, .unset, .unset] [(.int (24 : Int32)), (.int p1)])) _
      refine XS.iushr X18.here hx rfl (hb hby at_104) rfl ?_
      show Steps p.tables e below (T18.setTop (mkF m 105 #[.val (.int p1), .val (.int p2), .val (.int p3), .val (.int p4), .val (.int p5), .val (.int shq), .val (.int shg), .val (.int shp), .val (.int qa0), .val (.int qa1), .val (.int qla), .val (.int qb0), .unset, .unset, .unset, .unset, .unset, .unset, .unset, .unset, .unset, .unset, .unset, .unset, .unset, .unset, .unset, .unset, .unset, .unset, .unset, .unset, .unset, .unset, .unset, .unset] [(.int ((p1.toUInt32 >>> ((24 : Int32) &&& 31).toUInt32).toInt32))])) _
      refine XS.sipush X18.here hx rfl (hb hby at_105) ?_
      show Steps p.tables e below (T18.setTop (mkF m 108 #[.val (.int p1), .val (.int p2), .val (.int p3), .val (.int p4), .val (.int p5), .val (.int shq), .val (.int shg), .val (.int shp), .val (.int qa0), .val (.int qa1), .val (.int qla), .val (.int qb0), .unset, .unset, .unset, .unset, .unset, .unset, .unset, .unset, .unset, .unset, .unset, .unset, .unset, .unset, .unset, .unset, .unset, .unset, .unset, .unset, .unset, .unset, .unset, .unset] [(.int (255 : Int32)), (.int ((p1.toUInt32 >>> ((24 : Int32) &&& 31).toUInt32).toInt32))])) _
      refine XS.iand X18.here hx rfl (hb hby at_108) rfl ?_
      show Steps p.tables e below (T18.setTop (mkF m 109 #[.val (.int p1), .val (.int p2), .val (.int p3), .val (.int p4), .val (.int p5), .val (.int shq), .val (.int shg), .val (.int shp), .val (.int qa0), .val (.int qa1), .val (.int qla), .val (.int qb0), .unset, .unset, .unset, .unset, .unset, .unset, .unset, .unset, .unset, .unset, .unset, .unset, .unset, .unset, .unset, .unset, .unset, .unset, .unset, .unset, .unset, .unset, .unset, .unset] [(.int (((p1.toUInt32 >>> ((24 : Int32) &&& 31).toUInt32).toInt32) &&& (255 : Int32)))])) _
      simp only [if_pos hc27] at k
      exact k
    · show Steps p.tables e below (T18.setTop (mkF m 93 #[.val (.int p1), .val (.int p2), .val (.int p3), .val (.int p4), .val (.int p5), .val (.int shq), .val (.int shg), .val (.int shp), .val (.int qa0), .val (.int qa1), .val (.int qla), .val (.int qb0), .unset, .unset, .unset, .unset, .unset, .unset, .unset, .unset, .unset, .unset, .unset, .unset, .unset, .unset, .unset, .unset, .unset, .unset, .unset, .unset, .unset, .unset, .unset, .unset] [(.int shq)])) _
      refine XS.ifNo X18.here hx rfl (hb hby at_93) rfl ((if0 _ _).trans (feq hc27).1) ?_
      show Steps p.tables e below (T18.setTop (mkF m 96 #[.val (.int p1), .val (.int p2), .val (.int p3), .val (.int p4), .val (.int p5), .val (.int shq), .val (.int shg), .val (.int shp), .val (.int qa0), .val (.int qa1), .val (.int qla), .val (.int qb0), .unset, .unset, .unset, .unset, .unset, .unset, .unset, .unset, .unset, .unset, .unset, .unset, .unset, .unset, .unset, .unset, .unset, .unset, .unset, .unset, .unset, .unset, .unset, .unset] [])) _
      refine XS.iload X18.here hx rfl (hb hby at_96) rfl ?_
      show Steps p.tables e below (T18.setTop (mkF m 98 #[.val (.int p1), .val (.int p2), .val (.int p3), .val (.int p4), .val (.int p5), .val (.int shq), .val (.int shg), .val (.int shp), .val (.int qa0), .val (.int qa1), .val (.int qla), .val (.int qb0), .unset, .unset, .unset, .unset, .unset, .unset, .unset, .unset, .unset, .unset, .unset, .unset, .unset, .unset, .unset, .unset, .unset, .unset, .unset, .unset, .unset, .unset, .unset, .unset] [(.int qa1)])) _
      refine XS.goto X18.here hx rfl (pc0 := 98) (pc' := 109) rfl (hb hby at_98) (by decide) (by decide) ?_
      show Steps p.tables e below (T18.setTop (mkF m 109 #[.val (.int p1), .val (.int p2), .val (.int p3), .val (.int p4), .val (.int p5), .val (.int shq), .val (.int shg), .val (.int shp), .val (.int qa0), .val (.int qa1), .val (.int qla), .val (.int qb0), .unset, .unset, .unset, .unset, .unset, .unset, .unset, .unset, .unset, .unset, .unset, .unset, .unset, .unset, .unset, .unset, .unset, .unset, .unset, .unset, .unset, .unset, .unset, .unset] [(.int qa1)])) _
      simp only [if_neg hc27] at k
      exact k
  obtain ⟨qb1, h_qb1⟩ : ∃ z : Int32, z = (if shq = (0 : Int32) then (((p1.toUInt32 >>> ((24 : Int32) &&& 31).toUInt32).toInt32) &&& (255 : Int32)) else qa1) := ⟨_, rfl⟩
  have K29 : ∀ t, Steps p.tables e below (T18.setTop (mkF m 109 #[.val (.int p1), .val (.int p2), .val (.int p3), .val (.int p4), .val (.int p5), .val (.int shq), .val (.int shg), .val (.int shp), .val (.int qa0), .val (.int qa1), .val (.int qla), .val (.int qb0), .unset, .unset, .unset, .unset, .unset, .unset, .unset, .unset, .unset, .unset, .unset, .unset, .unset, .unset, .unset, .unset, .unset, .unset, .unset, .unset, .unset, .unset, .unset, .unset] [(.int qb1)])) t → Steps p.tables e below G t := by rw [h_qb1]; exact K28
  have hb_qb1 := own_if255 h_qb1 hb_qa1
  have K30 : ∀ t, Steps p.tables e below (T18.setTop (mkF m 113 #[.val (.int p1), .val (.int p2), .val (.int p3), .val (.int p4), .val (.int p5), .val (.int shq), .val (.int shg), .val (.int shp), .val (.int qa0), .val (.int qa1), .val (.int qla), .val (.int qb0), .val (.int qb1), .unset, .unset, .unset, .unset, .unset, .unset, .unset, .unset, .unset, .unset, .unset, .unset, .unset, .unset, .unset, .unset, .unset, .unset, .unset, .unset, .unset, .unset, .unset] [(.int shq)])) t → Steps p.tables e below G t := by
    intro t k
    refine K29 t ?_
    show Steps p.tables e below (T18.setTop (mkF m 109 #[.val (.int p1), .val (.int p2), .val (.int p3), .val (.int p4), .val (.int p5), .val (.int shq), .val (.int shg), .val (.int shp), .val (.int qa0), .val (.int qa1), .val (.int qla), .val (.int qb0), .unset, .unset, .unset, .unset, .unset, .unset, .unset, .unset, .unset, .unset, .unset, .unset, .unset, .unset, .unset, .unset, .unset, .unset, .unset, .unset, .unset, .unset, .unset, .unset] [(.int qb1)])) _
    refine XS.istore X18.here hx rfl (hb hby at_109) rfl (l' := #[.val (.int p1), .val (.int p2), .val (.int p3), .val (.int p4), .val (.int p5), .val (.int shq), .val (.int shg), .val (.int shp), .val (.int qa0), .val (.int qa1), .val (.int qla), .val (.int qb0), .val (.int qb1), .unset, .unset, .unset, .unset, .unset, .unset, .unset, .unset, .unset, .unset, .unset, .unset, .unset, .unset, .unset, .unset, .unset, .unset, .unset, .unset, .unset, .unset, .unset]) rfl ?_
    show Steps p.tables e below (T18.setTop (mkF m 111 #[.val (.int p1), .val (.int p2), .val (.int p3), .val (.int p4), .val (.int p5), .val (.int shq), .val (.int shg), .val (.int shp), .val (.int qa0), .val (.int qa1), .val (.int qla), .val (.int qb0), .val (.int qb1), .unset, .unset, .unset, .unset, .unset, .unset, .unset, .unset, .unset, .unset, .unset, .unset, .unset, .unset, .unset, .unset, .unset, .unset, .unset, .unset, .unset, .unset, .unset] [])) _
    refine XS.iload X18.here hx rfl (hb hby at_111) rfl ?_
    show Steps p.tables e below (T18.setTop (mkF m 113 #[.val (.int p1), .val (.int p2), .val (.int p3), .val (.int p4), .val (.int p5), .val (.int shq), .val (.int shg), .val (.int shp), .val (.int qa0), .val (.int qa1), .val (.int qla), .val (.int qb0), .val (.int qb1), .unset, .unset, .unset, .unset, .unset, .unset, .unset, .unset, .unset, .unset, .unset, .unset, .unset, .unset, .unset, .unset, .unset, .unset, .unset, .unset, .unset, .unset, .unset] [(.int shq)])) _
    exact k
  obtain ⟨T31, L31, X31, e31, N31, K31⟩ : ∃ (T : State) (L : List Loc), Stand p l e room_1 (s.setVm s.vm) m #[(.int p1), (.int p2), (.int p3), (.int p4), (.int p5)] below meth c T L 0 0 ∧ T.heap = h0 ∧ Fr n0 L ∧ ∀ t, Steps p.tables e below (T.setTop (mkF m 127 #[.val (.int p1), .val (.int p2), .val (.int p3), .val (.int p4), .val (.int p5), .val (.int shq), .val (.int shg), .val (.int shp), .val (.int qa0), .val (.int qa1), .val (.int qla), .val (.int qb0), .val (.int qb1), .unset, .unset, .unset, .unset, .unset, .unset, .unset, .unset, .unset, .unset, .unset, .unset, .unset, .unset, .unset, .unset, .unset, .unset, .unset, .unset, .unset, .unset, .unset] [(.int (if shq = (0 : Int32) then (((p4.toUInt32 >>> ((2 : Int32) &&& 31).toUInt32).toInt32 &&& (3 : Int32)) % (3 : Int32)) else qla))])) t → Steps p.tables e below G t := by
    by_cases hc32 : shq = (0 : Int32)
    · have K33 : ∀ t, Steps p.tables e below (T18.setTop (mkF m 124 #[.val (.int p1), .val (.int p2), .val (.int p3), .val (.int p4), .val (.int p5), .val (.int shq), .val (.int shg), .val (.int shp), .val (.int qa0), .val (.int qa1), .val (.int qla), .val (.int qb0), .val (.int qb1), .unset, .unset, .unset, .unset, .unset, .unset, .unset, .unset, .unset, .unset, .unset, .unset, .unset, .unset, .unset, .unset, .unset, .unset, .unset, .unset, .unset, .unset, .unset] [(.int ((p4.toUInt32 >>> ((2 : Int32) &&& 31).toUInt32).toInt32))])) t → Steps p.tables e below G t := by
        intro t k
        refine K30 t ?_
        show Steps p.tables e below (T18.setTop (mkF m 113 #[.val (.int p1), .val (.int p2), .val (.int p3), .val (.int p4), .val (.int p5), .val (.int shq), .val (.int shg), .val (.int shp), .val (.int qa0), .val (.int qa1), .val (.int qla), .val (.int qb0), .val (.int qb1), .unset, .unset, .unset, .unset, .unset, .unset, .unset, .unset, .unset, .unset, .unset, .unset, .unset, .unset, .unset, .unset, .unset, .unset, .unset, .unset, .unset, .unset, .unset] [(.int shq)])) _
        refine XS.ifYes X18.here hx rfl (pc0 := 113) (pc' := 121) rfl (hb hby at_113) rfl ((if0 _ _).trans (teq hc32).1) (by decide) (by decide) ?_
        show Steps p.tables e below (T18.setTop (mkF m 121 #[.val (.int p1), .val (.int p2), .val (.int p3), .val (.int p4), .val (.int p5), .val (.int shq), .val (.int shg), .val (.int shp), .val (.int qa0), .val (.int qa1), .val (.int qla), .val (.int qb0), .val (.int qb1), .unset, .unset, .unset, .unset, .unset, .unset, .unset, .unset, .unset, .unset, .unset, .unset, .unset, .unset, .unset, .unset, .unset, .unset, .unset, .unset, .unset, .unset, .unset] [])) _
        refine XS.iloadN X18.here hx rfl (hb hby at_121) rfl ?_
        show Steps p.tables e below (T18.setTop (mkF m 122 #[.val (.int p1), .val (.int p2), .val (.int p3), .val (.int p4), .val (.int p5), .val (.int shq), .val (.int shg), .val (.int shp), .val (.int qa0), .val (.int qa1), .val (.int qla), .val (.int qb0), .val (.int qb1), .unset, .unset, .unset, .unset, .unset, .unset, .unset, .unset, .unset, .unset, .unset, .unset, .unset, .unset, .unset, .unset, .unset, .unset, .unset, .unset, .unset, .unset, .unset] [(.int p4)])) _
        refine XS.iconst X18.here hx rfl (hb hby at_122) ?_
        show Steps p.tables e below (T18.setTop (mkF m 123 #[.val (.int p1), .val (.int p2), .val (.int p3), .val (.int p4), .val (.int p5), .val (.int shq), .val (.int shg), .val (.int shp), .val (.int qa0), .val (.int qa1), .val (.int qla), .val (.int qb0), .val (.int qb1), .unset, .unset, .unset, .unset, .unset, .unset, .unset, .unset, .unset, .unset, .unset, .unset, .unset, .unset, .unset, .unset, .unset, .unset, .unset, .unset, .unset, .unset, .unset] [(.int (2 : Int32)), (.int p4)])) _
        refine XS.iushr X18.here hx rfl (hb hby at_123) rfl ?_
        show Steps p.tables e below (T18.setTop (mkF m 124 #[.val (.int p1), .val (.int p2), .val (.int p3), .val (.int p4), .val (.int p5), .val (.int shq), .val (.int shg), .val (.int shp), .val (.int qa0), .val (.int qa1), .val (.int qla), .val (.int qb0), .val (.int qb1), .unset, .unset, .unset, .unset, .unset, .unset, .unset, .unset, .unset, .unset, .unset, .unset, .unset, .unset, .unset, .unset, .unset, .unset, .unset, .unset, .unset, .unset, .unset] [(.int ((p4.toUInt32 >>> ((2 : Int32) &&& 31).toUInt32).toInt32))])) _
        exact k
      obtain ⟨_, _, ⟨T34, L34, kk34, nn34⟩, -, X34, ⟨Lc34, hQ34, lq34, yq34, zq34⟩, st34⟩ := Jvm.LawKit.callS X18 hx (y := (⟨"com/example/conq/conq/model/GroupPartitionEqualsPinLaw", "len", "(I)I"⟩ : MethodName)) hown (mvT hZ (hw _ (List.mem_of_getElem? (i := 0) rfl))) (mvT hZ (hw _ (List.mem_of_getElem? (i := 1) rfl))) (mvT hZ (hw _ (List.mem_of_getElem? (i := 2) rfl))) (mvT hZ (hw _ (List.mem_of_getElem? (i := 3) rfl))) (by decide) (backOf (W := 0) (rm1 l Z a0 hw [] ((p4.toUInt32 >>> ((2 : Int32) &&& 31).toUInt32).toInt32) h0 n0 Z0 ) hZ (hw _ (List.mem_of_getElem? (i := 3) rfl)) (hw _ (List.mem_of_getElem? (i := 2) rfl)) (by decide) (by decide)) (g := (mkF m 124 #[.val (.int p1), .val (.int p2), .val (.int p3), .val (.int p4), .val (.int p5), .val (.int shq), .val (.int shg), .val (.int shp), .val (.int qa0), .val (.int qa1), .val (.int qla), .val (.int qb0), .val (.int qb1), .unset, .unset, .unset, .unset, .unset, .unset, .unset, .unset, .unset, .unset, .unset, .unset, .unset, .unset, .unset, .unset, .unset, .unset, .unset, .unset, .unset, .unset, .unset] [(.int ((p4.toUInt32 >>> ((2 : Int32) &&& 31).toUInt32).toInt32))])) rfl (by rw [hml]; rfl) (argsL := [(.int ((p4.toUInt32 >>> ((2 : Int32) &&& 31).toUInt32).toInt32))]) (rest := []) (lenOf pd_8 rfl) rfl (by show 2 * 0 + _ ≤ _; exact Nat.le_of_eq rfl) (hb hby at_124) (fun _ _ => ⟨rfl, e18, (by decide : 0 + 0 ≤ _), (by decide : 0 + 0 ≤ _)⟩)
      dsimp only [Pt.U, Pt.locs, Pt.cells, Pt.slots] at X34 lq34 yq34 zq34 st34 hQ34
      subst lq34 yq34 zq34
      obtain ⟨rfl, Nq34, e34⟩ := hQ34
      have N35 := Fr.app N19 Nq34
      have K36 : ∀ t, Steps p.tables e below (T34.setTop (mkF m 127 #[.val (.int p1), .val (.int p2), .val (.int p3), .val (.int p4), .val (.int p5), .val (.int shq), .val (.int shg), .val (.int shp), .val (.int qa0), .val (.int qa1), .val (.int qla), .val (.int qb0), .val (.int qb1), .unset, .unset, .unset, .unset, .unset, .unset, .unset, .unset, .unset, .unset, .unset, .unset, .unset, .unset, .unset, .unset, .unset, .unset, .unset, .unset, .unset, .unset, .unset] [(.int ((((p4.toUInt32 >>> ((2 : Int32) &&& 31).toUInt32).toInt32) &&& (3 : Int32)) % (3 : Int32)))])) t → Steps p.tables e below G t := fun t k => K33 t (st34 _ k)
      exact ⟨_, _, X34, e34, N35, by simp only [if_pos hc32]; exact K36⟩
    · have K37 : ∀ t, Steps p.tables e below (T18.setTop (mkF m 127 #[.val (.int p1), .val (.int p2), .val (.int p3), .val (.int p4), .val (.int p5), .val (.int shq), .val (.int shg), .val (.int shp), .val (.int qa0), .val (.int qa1), .val (.int qla), .val (.int qb0), .val (.int qb1), .unset, .unset, .unset, .unset, .unset, .unset, .unset, .unset, .unset, .unset, .unset, .unset, .unset, .unset, .unset, .unset, .unset, .unset, .unset, .unset, .unset, .unset, .unset] [(.int qla)])) t → Steps p.tables e below G t := by
        intro t k
        refine K30 t ?_
        show Steps p.tables e below (T18.setTop (mkF m 113 #[.val (.int p1), .val (.int p2), .val (.int p3), .val (.int p4), .val (.int p5), .val (.int shq), .val (.int shg), .val (.int shp), .val (.int qa0), .val (.int qa1), .val (.int qla), .val (.int qb0), .val (.int qb1), .unset, .unset, .unset, .unset, .unset, .unset, .unset, .unset, .unset, .unset, .unset, .unset, .unset, .unset, .unset, .unset, .unset, .unset, .unset, .unset, .unset, .unset, .unset] [(.int shq)])) _
        refine XS.ifNo X18.here hx rfl (hb hby at_113) rfl ((if0 _ _).trans (feq hc32).1) ?_
        show Steps p.tables e below (T18.setTop (mkF m 116 #[.val (.int p1), .val (.int p2), .val (.int p3), .val (.int p4), .val (.int p5), .val (.int shq), .val (.int shg), .val (.int shp), .val (.int qa0), .val (.int qa1), .val (.int qla), .val (.int qb0), .val (.int qb1), .unset, .unset, .unset, .unset, .unset, .unset, .unset, .unset, .unset, .unset, .unset, .unset, .unset, .unset, .unset, .unset, .unset, .unset, .unset, .unset, .unset, .unset, .unset] [])) _
        refine XS.iload X18.here hx rfl (hb hby at_116) rfl ?_
        show Steps p.tables e below (T18.setTop (mkF m 118 #[.val (.int p1), .val (.int p2), .val (.int p3), .val (.int p4), .val (.int p5), .val (.int shq), .val (.int shg), .val (.int shp), .val (.int qa0), .val (.int qa1), .val (.int qla), .val (.int qb0), .val (.int qb1), .unset, .unset, .unset, .unset, .unset, .unset, .unset, .unset, .unset, .unset, .unset, .unset, .unset, .unset, .unset, .unset, .unset, .unset, .unset, .unset, .unset, .unset, .unset] [(.int qla)])) _
        refine XS.goto X18.here hx rfl (pc0 := 118) (pc' := 127) rfl (hb hby at_118) (by decide) (by decide) ?_
        show Steps p.tables e below (T18.setTop (mkF m 127 #[.val (.int p1), .val (.int p2), .val (.int p3), .val (.int p4), .val (.int p5), .val (.int shq), .val (.int shg), .val (.int shp), .val (.int qa0), .val (.int qa1), .val (.int qla), .val (.int qb0), .val (.int qb1), .unset, .unset, .unset, .unset, .unset, .unset, .unset, .unset, .unset, .unset, .unset, .unset, .unset, .unset, .unset, .unset, .unset, .unset, .unset, .unset, .unset, .unset, .unset] [(.int qla)])) _
        exact k
      exact ⟨_, _, X18, e18, N19, by simp only [if_neg hc32]; exact K37⟩
  obtain ⟨qlb, h_qlb⟩ : ∃ z : Int32, z = (if shq = (0 : Int32) then (((p4.toUInt32 >>> ((2 : Int32) &&& 31).toUInt32).toInt32 &&& (3 : Int32)) % (3 : Int32)) else qla) := ⟨_, rfl⟩
  have K38 : ∀ t, Steps p.tables e below (T31.setTop (mkF m 127 #[.val (.int p1), .val (.int p2), .val (.int p3), .val (.int p4), .val (.int p5), .val (.int shq), .val (.int shg), .val (.int shp), .val (.int qa0), .val (.int qa1), .val (.int qla), .val (.int qb0), .val (.int qb1), .unset, .unset, .unset, .unset, .unset, .unset, .unset, .unset, .unset, .unset, .unset, .unset, .unset, .unset, .unset, .unset, .unset, .unset, .unset, .unset, .unset, .unset, .unset] [(.int qlb)])) t → Steps p.tables e below G t := by rw [h_qlb]; exact K31
  have hl_qlb := own_ifl3 h_qlb hl_qla
  have K39 : ∀ t, Steps p.tables e below (T31.setTop (mkF m 134 #[.val (.int p1), .val (.int p2), .val (.int p3), .val (.int p4), .val (.int p5), .val (.int shq), .val (.int shg), .val (.int shp), .val (.int qa0), .val (.int qa1), .val (.int qla), .val (.int qb0), .val (.int qb1), .val (.int qlb), .unset, .unset, .unset, .unset, .unset, .unset, .unset, .unset, .unset, .unset, .unset, .unset, .unset, .unset, .unset, .unset, .unset, .unset, .unset, .unset, .unset, .unset] [(.int (p2 &&& (255 : Int32)))])) t → Steps p.tables e below G t := by
    intro t k
    refine K38 t ?_
    show Steps p.tables e below (T31.setTop (mkF m 127 #[.val (.int p1), .val (.int p2), .val (.int p3), .val (.int p4), .val (.int p5), .val (.int shq), .val (.int shg), .val (.int shp), .val (.int qa0), .val (.int qa1), .val (.int qla), .val (.int qb0), .val (.int qb1), .unset, .unset, .unset, .unset, .unset, .unset, .unset, .unset, .unset, .unset, .unset, .unset, .unset, .unset, .unset, .unset, .unset, .unset, .unset, .unset, .unset, .unset, .unset] [(.int qlb)])) _
    refine XS.istore X31.here hx rfl (hb hby at_127) rfl (l' := #[.val (.int p1), .val (.int p2), .val (.int p3), .val (.int p4), .val (.int p5), .val (.int shq), .val (.int shg), .val (.int shp), .val (.int qa0), .val (.int qa1), .val (.int qla), .val (.int qb0), .val (.int qb1), .val (.int qlb), .unset, .unset, .unset, .unset, .unset, .unset, .unset, .unset, .unset, .unset, .unset, .unset, .unset, .unset, .unset, .unset, .unset, .unset, .unset, .unset, .unset, .unset]) rfl ?_
    show Steps p.tables e below (T31.setTop (mkF m 129 #[.val (.int p1), .val (.int p2), .val (.int p3), .val (.int p4), .val (.int p5), .val (.int shq), .val (.int shg), .val (.int shp), .val (.int qa0), .val (.int qa1), .val (.int qla), .val (.int qb0), .val (.int qb1), .val (.int qlb), .unset, .unset, .unset, .unset, .unset, .unset, .unset, .unset, .unset, .unset, .unset, .unset, .unset, .unset, .unset, .unset, .unset, .unset, .unset, .unset, .unset, .unset] [])) _
    refine XS.iloadN X31.here hx rfl (hb hby at_129) rfl ?_
    show Steps p.tables e below (T31.setTop (mkF m 130 #[.val (.int p1), .val (.int p2), .val (.int p3), .val (.int p4), .val (.int p5), .val (.int shq), .val (.int shg), .val (.int shp), .val (.int qa0), .val (.int qa1), .val (.int qla), .val (.int qb0), .val (.int qb1), .val (.int qlb), .unset, .unset, .unset, .unset, .unset, .unset, .unset, .unset, .unset, .unset, .unset, .unset, .unset, .unset, .unset, .unset, .unset, .unset, .unset, .unset, .unset, .unset] [(.int p2)])) _
    refine XS.sipush X31.here hx rfl (hb hby at_130) ?_
    show Steps p.tables e below (T31.setTop (mkF m 133 #[.val (.int p1), .val (.int p2), .val (.int p3), .val (.int p4), .val (.int p5), .val (.int shq), .val (.int shg), .val (.int shp), .val (.int qa0), .val (.int qa1), .val (.int qla), .val (.int qb0), .val (.int qb1), .val (.int qlb), .unset, .unset, .unset, .unset, .unset, .unset, .unset, .unset, .unset, .unset, .unset, .unset, .unset, .unset, .unset, .unset, .unset, .unset, .unset, .unset, .unset, .unset] [(.int (255 : Int32)), (.int p2)])) _
    refine XS.iand X31.here hx rfl (hb hby at_133) rfl ?_
    show Steps p.tables e below (T31.setTop (mkF m 134 #[.val (.int p1), .val (.int p2), .val (.int p3), .val (.int p4), .val (.int p5), .val (.int shq), .val (.int shg), .val (.int shp), .val (.int qa0), .val (.int qa1), .val (.int qla), .val (.int qb0), .val (.int qb1), .val (.int qlb), .unset, .unset, .unset, .unset, .unset, .unset, .unset, .unset, .unset, .unset, .unset, .unset, .unset, .unset, .unset, .unset, .unset, .unset, .unset, .unset, .unset, .unset] [(.int (p2 &&& (255 : Int32)))])) _
    exact k
  obtain ⟨ga0, h_ga0⟩ : ∃ z : Int32, z = (p2 &&& (255 : Int32)) := ⟨_, rfl⟩
  have K40 : ∀ t, Steps p.tables e below (T31.setTop (mkF m 134 #[.val (.int p1), .val (.int p2), .val (.int p3), .val (.int p4), .val (.int p5), .val (.int shq), .val (.int shg), .val (.int shp), .val (.int qa0), .val (.int qa1), .val (.int qla), .val (.int qb0), .val (.int qb1), .val (.int qlb), .unset, .unset, .unset, .unset, .unset, .unset, .unset, .unset, .unset, .unset, .unset, .unset, .unset, .unset, .unset, .unset, .unset, .unset, .unset, .unset, .unset, .unset] [(.int ga0)])) t → Steps p.tables e below G t := by rw [h_ga0]; exact K39
  have hb_ga0 := own_255 h_ga0
  have K41 : ∀ t, Steps p.tables e below (T31.setTop (mkF m 144 #[.val (.int p1), .val (.int p2), .val (.int p3), .val (.int p4), .val (.int p5), .val (.int shq), .val (.int shg), .val (.int shp), .val (.int qa0), .val (.int qa1), .val (.int qla), .val (.int qb0), .val (.int qb1), .val (.int qlb), .val (.int ga0), .unset, .unset, .unset, .unset, .unset, .unset, .unset, .unset, .unset, .unset, .unset, .unset, .unset, .unset, .unset, .unset, .unset, .unset, .unset, .unset, .unset] [(.int (((p2.toUInt32 >>> ((8 : Int32) &&& 31).toUInt32).toInt32) &&& (255 : Int32)))])) t → Steps p.tables e below G t := by
    intro t k
    refine K40 t ?_
    show Steps p.tables e below (T31.setTop (mkF m 134 #[.val (.int p1), .val (.int p2), .val (.int p3), .val (.int p4), .val (.int p5), .val (.int shq), .val (.int shg), .val (.int shp), .val (.int qa0), .val (.int qa1), .val (.int qla), .val (.int qb0), .val (.int qb1), .val (.int qlb), .unset, .unset, .unset, .unset, .unset, .unset, .unset, .unset, .unset, .unset, .unset, .unset, .unset, .unset, .unset, .unset, .unset, .unset, .unset, .unset, .unset, .unset] [(.int ga0)])) _
    refine XS.istore X31.here hx rfl (hb hby at_134) rfl (l' := #[.val (.int p1), .val (.int p2), .val (.int p3), .val (.int p4), .val (.int p5), .val (.int shq), .val (.int shg), .val (.int shp), .val (.int qa0), .val (.int qa1), .val (.int qla), .val (.int qb0), .val (.int qb1), .val (.int qlb), .val (.int ga0), .unset, .unset, .unset, .unset, .unset, .unset, .unset, .unset, .unset, .unset, .unset, .unset, .unset, .unset, .unset, .unset, .unset, .unset, .unset, .unset, .unset]) rfl ?_
    show Steps p.tables e below (T31.setTop (mkF m 136 #[.val (.int p1), .val (.int p2), .val (.int p3), .val (.int p4), .val (.int p5), .val (.int shq), .val (.int shg), .val (.int shp), .val (.int qa0), .val (.int qa1), .val (.int qla), .val (.int qb0), .val (.int qb1), .val (.int qlb), .val (.int ga0), .unset, .unset, .unset, .unset, .unset, .unset, .unset, .unset, .unset, .unset, .unset, .unset, .unset, .unset, .unset, .unset, .unset, .unset, .unset, .unset, .unset] [])) _
    refine XS.iloadN X31.here hx rfl (hb hby at_136) rfl ?_
    show Steps p.tables e below (T31.setTop (mkF m 137 #[.val (.int p1), .val (.int p2), .val (.int p3), .val (.int p4), .val (.int p5), .val (.int shq), .val (.int shg), .val (.int shp), .val (.int qa0), .val (.int qa1), .val (.int qla), .val (.int qb0), .val (.int qb1), .val (.int qlb), .val (.int ga0), .unset, .unset, .unset, .unset, .unset, .unset, .unset, .unset, .unset, .unset, .unset, .unset, .unset, .unset, .unset, .unset, .unset, .unset, .unset, .unset, .unset] [(.int p2)])) _
    refine XS.bipush X31.here hx rfl (hb hby at_137) ?_
    show Steps p.tables e below (T31.setTop (mkF m 139 #[.val (.int p1), .val (.int p2), .val (.int p3), .val (.int p4), .val (.int p5), .val (.int shq), .val (.int shg), .val (.int shp), .val (.int qa0), .val (.int qa1), .val (.int qla), .val (.int qb0), .val (.int qb1), .val (.int qlb), .val (.int ga0), .unset, .unset, .unset, .unset, .unset, .unset, .unset, .unset, .unset, .unset, .unset, .unset, .unset, .unset, .unset, .unset, .unset, .unset, .unset, .unset, .unset] [(.int (8 : Int32)), (.int p2)])) _
    refine XS.iushr X31.here hx rfl (hb hby at_139) rfl ?_
    show Steps p.tables e below (T31.setTop (mkF m 140 #[.val (.int p1), .val (.int p2), .val (.int p3), .val (.int p4), .val (.int p5), .val (.int shq), .val (.int shg), .val (.int shp), .val (.int qa0), .val (.int qa1), .val (.int qla), .val (.int qb0), .val (.int qb1), .val (.int qlb), .val (.int ga0), .unset, .unset, .unset, .unset, .unset, .unset, .unset, .unset, .unset, .unset, .unset, .unset, .unset, .unset, .unset, .unset, .unset, .unset, .unset, .unset, .unset] [(.int ((p2.toUInt32 >>> ((8 : Int32) &&& 31).toUInt32).toInt32))])) _
    refine XS.sipush X31.here hx rfl (hb hby at_140) ?_
    show Steps p.tables e below (T31.setTop (mkF m 143 #[.val (.int p1), .val (.int p2), .val (.int p3), .val (.int p4), .val (.int p5), .val (.int shq), .val (.int shg), .val (.int shp), .val (.int qa0), .val (.int qa1), .val (.int qla), .val (.int qb0), .val (.int qb1), .val (.int qlb), .val (.int ga0), .unset, .unset, .unset, .unset, .unset, .unset, .unset, .unset, .unset, .unset, .unset, .unset, .unset, .unset, .unset, .unset, .unset, .unset, .unset, .unset, .unset] [(.int (255 : Int32)), (.int ((p2.toUInt32 >>> ((8 : Int32) &&& 31).toUInt32).toInt32))])) _
    refine XS.iand X31.here hx rfl (hb hby at_143) rfl ?_
    show Steps p.tables e below (T31.setTop (mkF m 144 #[.val (.int p1), .val (.int p2), .val (.int p3), .val (.int p4), .val (.int p5), .val (.int shq), .val (.int shg), .val (.int shp), .val (.int qa0), .val (.int qa1), .val (.int qla), .val (.int qb0), .val (.int qb1), .val (.int qlb), .val (.int ga0), .unset, .unset, .unset, .unset, .unset, .unset, .unset, .unset, .unset, .unset, .unset, .unset, .unset, .unset, .unset, .unset, .unset, .unset, .unset, .unset, .unset] [(.int (((p2.toUInt32 >>> ((8 : Int32) &&& 31).toUInt32).toInt32) &&& (255 : Int32)))])) _
    exact k
  obtain ⟨ga1, h_ga1⟩ : ∃ z : Int32, z = (((p2.toUInt32 >>> ((8 : Int32) &&& 31).toUInt32).toInt32) &&& (255 : Int32)) := ⟨_, rfl⟩
  have K42 : ∀ t, Steps p.tables e below (T31.setTop (mkF m 144 #[.val (.int p1), .val (.int p2), .val (.int p3), .val (.int p4), .val (.int p5), .val (.int shq), .val (.int shg), .val (.int shp), .val (.int qa0), .val (.int qa1), .val (.int qla), .val (.int qb0), .val (.int qb1), .val (.int qlb), .val (.int ga0), .unset, .unset, .unset, .unset, .unset, .unset, .unset, .unset, .unset, .unset, .unset, .unset, .unset, .unset, .unset, .unset, .unset, .unset, .unset, .unset, .unset] [(.int ga1)])) t → Steps p.tables e below G t := by rw [h_ga1]; exact K41
  have hb_ga1 := own_255 h_ga1
  have K43 : ∀ t, Steps p.tables e below (T31.setTop (mkF m 149 #[.val (.int p1), .val (.int p2), .val (.int p3), .val (.int p4), .val (.int p5), .val (.int shq), .val (.int shg), .val (.int shp), .val (.int qa0), .val (.int qa1), .val (.int qla), .val (.int qb0), .val (.int qb1), .val (.int qlb), .val (.int ga0), .val (.int ga1), .unset, .unset, .unset, .unset, .unset, .unset, .unset, .unset, .unset, .unset, .unset, .unset, .unset, .unset, .unset, .unset, .unset, .unset, .unset, .unset] [(.int ((p4.toUInt32 >>> ((4 : Int32) &&& 31).toUInt32).toInt32))])) t → Steps p.tables e below G t := by
    intro t k
    refine K42 t ?_
    show Steps p.tables e below (T31.setTop (mkF m 144 #[.val (.int p1), .val (.int p2), .val (.int p3), .val (.int p4), .val (.int p5), .val (.int shq), .val (.int shg), .val (.int shp), .val (.int qa0), .val (.int qa1), .val (.int qla), .val (.int qb0), .val (.int qb1), .val (.int qlb), .val (.int ga0), .unset, .unset, .unset, .unset, .unset, .unset, .unset, .unset, .unset, .unset, .unset, .unset, .unset, .unset, .unset, .unset, .unset, .unset, .unset, .unset, .unset] [(.int ga1)])) _
    refine XS.istore X31.here hx rfl (hb hby at_144) rfl (l' := #[.val (.int p1), .val (.int p2), .val (.int p3), .val (.int p4), .val (.int p5), .val (.int shq), .val (.int shg), .val (.int shp), .val (.int qa0), .val (.int qa1), .val (.int qla), .val (.int qb0), .val (.int qb1), .val (.int qlb), .val (.int ga0), .val (.int ga1), .unset, .unset, .unset, .unset, .unset, .unset, .unset, .unset, .unset, .unset, .unset, .unset, .unset, .unset, .unset, .unset, .unset, .unset, .unset, .unset]) rfl ?_
    show Steps p.tables e below (T31.setTop (mkF m 146 #[.val (.int p1), .val (.int p2), .val (.int p3), .val (.int p4), .val (.int p5), .val (.int shq), .val (.int shg), .val (.int shp), .val (.int qa0), .val (.int qa1), .val (.int qla), .val (.int qb0), .val (.int qb1), .val (.int qlb), .val (.int ga0), .val (.int ga1), .unset, .unset, .unset, .unset, .unset, .unset, .unset, .unset, .unset, .unset, .unset, .unset, .unset, .unset, .unset, .unset, .unset, .unset, .unset, .unset] [])) _
    refine XS.iloadN X31.here hx rfl (hb hby at_146) rfl ?_
    show Steps p.tables e below (T31.setTop (mkF m 147 #[.val (.int p1), .val (.int p2), .val (.int p3), .val (.int p4), .val (.int p5), .val (.int shq), .val (.int shg), .val (.int shp), .val (.int qa0), .val (.int qa1), .val (.int qla), .val (.int qb0), .val (.int qb1), .val (.int qlb), .val (.int ga0), .val (.int ga1), .unset, .unset, .unset, .unset, .unset, .unset, .unset, .unset, .unset, .unset, .unset, .unset, .unset, .unset, .unset, .unset, .unset, .unset, .unset, .unset] [(.int p4)])) _
    refine XS.iconst X31.here hx rfl (hb hby at_147) ?_
    show Steps p.tables e below (T31.setTop (mkF m 148 #[.val (.int p1), .val (.int p2), .val (.int p3), .val (.int p4), .val (.int p5), .val (.int shq), .val (.int shg), .val (.int shp), .val (.int qa0), .val (.int qa1), .val (.int qla), .val (.int qb0), .val (.int qb1), .val (.int qlb), .val (.int ga0), .val (.int ga1), .unset, .unset, .unset, .unset, .unset, .unset, .unset, .unset, .unset, .unset, .unset, .unset, .unset, .unset, .unset, .unset, .unset, .unset, .unset, .unset] [(.int (4 : Int32)), (.int p4)])) _
    refine XS.iushr X31.here hx rfl (hb hby at_148) rfl ?_
    show Steps p.tables e below (T31.setTop (mkF m 149 #[.val (.int p1), .val (.int p2), .val (.int p3), .val (.int p4), .val (.int p5), .val (.int shq), .val (.int shg), .val (.int shp), .val (.int qa0), .val (.int qa1), .val (.int qla), .val (.int qb0), .val (.int qb1), .val (.int qlb), .val (.int ga0), .val (.int ga1), .unset, .unset, .unset, .unset, .unset, .unset, .unset, .unset, .unset, .unset, .unset, .unset, .unset, .unset, .unset, .unset, .unset, .unset, .unset, .unset] [(.int ((p4.toUInt32 >>> ((4 : Int32) &&& 31).toUInt32).toInt32))])) _
    exact k
  obtain ⟨_, _, ⟨T44, L44, kk44, nn44⟩, -, X44, ⟨Lc44, hQ44, lq44, yq44, zq44⟩, st44⟩ := Jvm.LawKit.callS X31 hx (y := (⟨"com/example/conq/conq/model/GroupPartitionEqualsPinLaw", "len", "(I)I"⟩ : MethodName)) hown (mvT hZ (hw _ (List.mem_of_getElem? (i := 0) rfl))) (mvT hZ (hw _ (List.mem_of_getElem? (i := 1) rfl))) (mvT hZ (hw _ (List.mem_of_getElem? (i := 2) rfl))) (mvT hZ (hw _ (List.mem_of_getElem? (i := 3) rfl))) (by decide) (backOf (W := 0) (rm1 l Z a0 hw [] ((p4.toUInt32 >>> ((4 : Int32) &&& 31).toUInt32).toInt32) h0 n0 Z0 ) hZ (hw _ (List.mem_of_getElem? (i := 3) rfl)) (hw _ (List.mem_of_getElem? (i := 2) rfl)) (by decide) (by decide)) (g := (mkF m 149 #[.val (.int p1), .val (.int p2), .val (.int p3), .val (.int p4), .val (.int p5), .val (.int shq), .val (.int shg), .val (.int shp), .val (.int qa0), .val (.int qa1), .val (.int qla), .val (.int qb0), .val (.int qb1), .val (.int qlb), .val (.int ga0), .val (.int ga1), .unset, .unset, .unset, .unset, .unset, .unset, .unset, .unset, .unset, .unset, .unset, .unset, .unset, .unset, .unset, .unset, .unset, .unset, .unset, .unset] [(.int ((p4.toUInt32 >>> ((4 : Int32) &&& 31).toUInt32).toInt32))])) rfl (by rw [hml]; rfl) (argsL := [(.int ((p4.toUInt32 >>> ((4 : Int32) &&& 31).toUInt32).toInt32))]) (rest := []) (lenOf pd_8 rfl) rfl (by show 2 * 0 + _ ≤ _; exact Nat.le_of_eq rfl) (hb hby at_149) (fun _ _ => ⟨rfl, e31, (by decide : 0 + 0 ≤ _), (by decide : 0 + 0 ≤ _)⟩)
  dsimp only [Pt.U, Pt.locs, Pt.cells, Pt.slots] at X44 lq44 yq44 zq44 st44 hQ44
  subst lq44 yq44 zq44
  obtain ⟨rfl, Nq44, e44⟩ := hQ44
  have N45 := Fr.app N31 Nq44
  have K46 : ∀ t, Steps p.tables e below (T44.setTop (mkF m 152 #[.val (.int p1), .val (.int p2), .val (.int p3), .val (.int p4), .val (.int p5), .val (.int shq), .val (.int shg), .val (.int shp), .val (.int qa0), .val (.int qa1), .val (.int qla), .val (.int qb0), .val (.int qb1), .val (.int qlb), .val (.int ga0), .val (.int ga1), .unset, .unset, .unset, .unset, .unset, .unset, .unset, .unset, .unset, .unset, .unset, .unset, .unset, .unset, .unset, .unset, .unset, .unset, .unset, .unset] [(.int ((((p4.toUInt32 >>> ((4 : Int32) &&& 31).toUInt32).toInt32) &&& (3 : Int32)) % (3 : Int32)))])) t → Steps p.tables e below G t := fun t k => K43 t (st44 _ k)
  obtain ⟨gla, h_gla⟩ : ∃ z : Int32, z = ((((p4.toUInt32 >>> ((4 : Int32) &&& 31).toUInt32).toInt32) &&& (3 : Int32)) % (3 : Int32)) := ⟨_, rfl⟩
  have K47 : ∀ t, Steps p.tables e below (T44.setTop (mkF m 152 #[.val (.int p1), .val (.int p2), .val (.int p3), .val (.int p4), .val (.int p5), .val (.int shq), .val (.int shg), .val (.int shp), .val (.int qa0), .val (.int qa1), .val (.int qla), .val (.int qb0), .val (.int qb1), .val (.int qlb), .val (.int ga0), .val (.int ga1), .unset, .unset, .unset, .unset, .unset, .unset, .unset, .unset, .unset, .unset, .unset, .unset, .unset, .unset, .unset, .unset, .unset, .unset, .unset, .unset] [(.int gla)])) t → Steps p.tables e below G t := by rw [h_gla]; exact K46
  have hl_gla := own_l3 h_gla
  have K48 : ∀ t, Steps p.tables e below (T44.setTop (mkF m 156 #[.val (.int p1), .val (.int p2), .val (.int p3), .val (.int p4), .val (.int p5), .val (.int shq), .val (.int shg), .val (.int shp), .val (.int qa0), .val (.int qa1), .val (.int qla), .val (.int qb0), .val (.int qb1), .val (.int qlb), .val (.int ga0), .val (.int ga1), .val (.int gla), .unset, .unset, .unset, .unset, .unset, .unset, .unset, .unset, .unset, .unset, .unset, .unset, .unset, .unset, .unset, .unset, .unset, .unset, .unset] [(.int shg)])) t → Steps p.tables e below G t := by
    intro t k
    refine K47 t ?_
    show Steps p.tables e below (T44.setTop (mkF m 152 #[.val (.int p1), .val (.int p2), .val (.int p3), .val (.int p4), .val (.int p5), .val (.int shq), .val (.int shg), .val (.int shp), .val (.int qa0), .val (.int qa1), .val (.int qla), .val (.int qb0), .val (.int qb1), .val (.int qlb), .val (.int ga0), .val (.int ga1), .unset, .unset, .unset, .unset, .unset, .unset, .unset, .unset, .unset, .unset, .unset, .unset, .unset, .unset, .unset, .unset, .unset, .unset, .unset, .unset] [(.int gla)])) _
    refine XS.istore X44.here hx rfl (hb hby at_152) rfl (l' := #[.val (.int p1), .val (.int p2), .val (.int p3), .val (.int p4), .val (.int p5), .val (.int shq), .val (.int shg), .val (.int shp), .val (.int qa0), .val (.int qa1), .val (.int qla), .val (.int qb0), .val (.int qb1), .val (.int qlb), .val (.int ga0), .val (.int ga1), .val (.int gla), .unset, .unset, .unset, .unset, .unset, .unset, .unset, .unset, .unset, .unset, .unset, .unset, .unset, .unset, .unset, .unset, .unset, .unset, .unset]) rfl ?_
    show Steps p.tables e below (T44.setTop (mkF m 154 #[.val (.int p1), .val (.int p2), .val (.int p3), .val (.int p4), .val (.int p5), .val (.int shq), .val (.int shg), .val (.int shp), .val (.int qa0), .val (.int qa1), .val (.int qla), .val (.int qb0), .val (.int qb1), .val (.int qlb), .val (.int ga0), .val (.int ga1), .val (.int gla), .unset, .unset, .unset, .unset, .unset, .unset, .unset, .unset, .unset, .unset, .unset, .unset, .unset, .unset, .unset, .unset, .unset, .unset, .unset] [])) _
    refine XS.iload X44.here hx rfl (hb hby at_154) rfl ?_
    show Steps p.tables e below (T44.setTop (mkF m 156 #[.val (.int p1), .val (.int p2), .val (.int p3), .val (.int p4), .val (.int p5), .val (.int shq), .val (.int shg), .val (.int shp), .val (.int qa0), .val (.int qa1), .val (.int qla), .val (.int qb0), .val (.int qb1), .val (.int qlb), .val (.int ga0), .val (.int ga1), .val (.int gla), .unset, .unset, .unset, .unset, .unset, .unset, .unset, .unset, .unset, .unset, .unset, .unset, .unset, .unset, .unset, .unset, .unset, .unset, .unset] [(.int shg)])) _
    exact k
  have K50 : ∀ t, Steps p.tables e below (T44.setTop (mkF m 172 #[.val (.int p1), .val (.int p2), .val (.int p3), .val (.int p4), .val (.int p5), .val (.int shq), .val (.int shg), .val (.int shp), .val (.int qa0), .val (.int qa1), .val (.int qla), .val (.int qb0), .val (.int qb1), .val (.int qlb), .val (.int ga0), .val (.int ga1), .val (.int gla), .unset, .unset, .unset, .unset, .unset, .unset, .unset, .unset, .unset, .unset, .unset, .unset, .unset, .unset, .unset, .unset, .unset, .unset, .unset] [(.int (if shg = (0 : Int32) then (((p2.toUInt32 >>> ((16 : Int32) &&& 31).toUInt32).toInt32) &&& (255 : Int32)) else ga0))])) t → Steps p.tables e below G t := by
    intro t k
    refine K48 t ?_
    by_cases hc49 : shg = (0 : Int32)
    · show Steps p.tables e below (T44.setTop (mkF m 156 #[.val (.int p1), .val (.int p2), .val (.int p3), .val (.int p4), .val (.int p5), .val (.int shq), .val (.int shg), .val (.int shp), .val (.int qa0), .val (.int qa1), .val (.int qla), .val (.int qb0), .val (.int qb1), .val (.int qlb), .val (.int ga0), .val (.int ga1), .val (.int gla), .unset, .unset, .unset, .unset, .unset, .unset, .unset, .unset, .unset, .unset, .unset, .unset, .unset, .unset, .unset, .unset, .unset, .unset, .unset] [(.int shg)])) _
      refine XS.ifYes X44.here hx rfl (pc0 := 156) (pc' := 164) rfl (hb hby at_156) rfl ((if0 _ _).trans (teq hc49).1) (by decide) (by decide) ?_
      show Steps p.tables e below (T44.setTop (mkF m 164 #[.val (.int p1), .val (.int p2), .val (.int p3), .val (.int p4), .val (.int p5), .val (.int shq), .val (.int shg), .val (.int shp), .val (.int qa0), .val (.int qa1), .val (.int qla), .val (.int qb0), .val (.int qb1), .val (.int qlb), .val (.int ga0), .val (.int ga1), .val (.int gla), .unset, .unset, .unset, .unset, .unset, .unset, .unset, .unset, .unset, .unset, .unset, .unset, .unset, .unset, .unset, .unset, .unset, .unset, .unset] [])) _
      refine XS.iloadN X44.here hx rfl (hb hby at_164) rfl ?_
      show Steps p.tables e below (T44.setTop (mkF m 165 #[.val (.int p1), .val (.int p2), .val (.int p3), .val (.int p4), .val (.int p5), .val (.int shq), .val (.int shg), .val (.int shp), .val (.int qa0), .val (.int qa1), .val (.int qla), .val (.int qb0), .val (.int qb1), .val (.int qlb), .val (.int ga0), .val (.int ga1), .val (.int gla), .unset, .unset, .unset, .unset, .unset, .unset, .unset, .unset, .unset, .unset, .unset, .unset, .unset, .unset, .unset, .unset, .unset, .unset, .unset] [(.int p2)])) _
      refine XS.bipush X44.here hx rfl (hb hby at_165) ?_
      show Steps p.tables e below (T44.setTop (mkF m 167 #[.val (.int p1), .val (.int p2), .val (.int p3), .val (.int p4), .val (.int p5), .val (.int shq), .val (.int shg), .val (.int shp), .val (.int qa0), .val (.int qa1), .val (.int qla), .val (.int qb0), .val (.int qb1), .val (.int qlb), .val (.int ga0), .val (.int ga1), .val (.int gla), .unset, .unset, .unset, .unset, .unset, .unset, .unset, .unset, .unset, .unset, .unset, .unset, .unset, .unset, .unset, .unset, .unset, .unset, .unset] [(.int (16 : Int32)), (.int p2)])) _
      refine XS.iushr X44.here hx rfl (hb hby at_167) rfl ?_
      show Steps p.tables e below (T44.setTop (mkF m 168 #[.val (.int p1), .val (.int p2), .val (.int p3), .val (.int p4), .val (.int p5), .val (.int shq), .val (.int shg), .val (.int shp), .val (.int qa0), .val (.int qa1), .val (.int qla), .val (.int qb0), .val (.int qb1), .val (.int qlb), .val (.int ga0), .val (.int ga1), .val (.int gla), .unset, .unset, .unset, .unset, .unset, .unset, .unset, .unset, .unset, .unset, .unset, .unset, .unset, .unset, .unset, .unset, .unset, .unset, .unset] [(.int ((p2.toUInt32 >>> ((16 : Int32) &&& 31).toUInt32).toInt32))])) _
      refine XS.sipush X44.here hx rfl (hb hby at_168) ?_
      show Steps p.tables e below (T44.setTop (mkF m 171 #[.val (.int p1), .val (.int p2), .val (.int p3), .val (.int p4), .val (.int p5), .val (.int shq), .val (.int shg), .val (.int shp), .val (.int qa0), .val (.int qa1), .val (.int qla), .val (.int qb0), .val (.int qb1), .val (.int qlb), .val (.int ga0), .val (.int ga1), .val (.int gla), .unset, .unset, .unset, .unset, .unset, .unset, .unset, .unset, .unset, .unset, .unset, .unset, .unset, .unset, .unset, .unset, .unset, .unset, .unset] [(.int (255 : Int32)), (.int ((p2.toUInt32 >>> ((16 : Int32) &&& 31).toUInt32).toInt32))])) _
      refine XS.iand X44.here hx rfl (hb hby at_171) rfl ?_
      show Steps p.tables e below (T44.setTop (mkF m 172 #[.val (.int p1), .val (.int p2), .val (.int p3), .val (.int p4), .val (.int p5), .val (.int shq), .val (.int shg), .val (.int shp), .val (.int qa0), .val (.int qa1), .val (.int qla), .val (.int qb0), .val (.int qb1), .val (.int qlb), .val (.int ga0), .val (.int ga1), .val (.int gla), .unset, .unset, .unset, .unset, .unset, .unset, .unset, .unset, .unset, .unset, .unset, .unset, .unset, .unset, .unset, .unset, .unset, .unset, .unset] [(.int (((p2.toUInt32 >>> ((16 : Int32) &&& 31).toUInt32).toInt32) &&& (255 : Int32)))])) _
      simp only [if_pos hc49] at k
      exact k
    · show Steps p.tables e below (T44.setTop (mkF m 156 #[.val (.int p1), .val (.int p2), .val (.int p3), .val (.int p4), .val (.int p5), .val (.int shq), .val (.int shg), .val (.int shp), .val (.int qa0), .val (.int qa1), .val (.int qla), .val (.int qb0), .val (.int qb1), .val (.int qlb), .val (.int ga0), .val (.int ga1), .val (.int gla), .unset, .unset, .unset, .unset, .unset, .unset, .unset, .unset, .unset, .unset, .unset, .unset, .unset, .unset, .unset, .unset, .unset, .unset, .unset] [(.int shg)])) _
      refine XS.ifNo X44.here hx rfl (hb hby at_156) rfl ((if0 _ _).trans (feq hc49).1) ?_
      show Steps p.tables e below (T44.setTop (mkF m 159 #[.val (.int p1), .val (.int p2), .val (.int p3), .val (.int p4), .val (.int p5), .val (.int shq), .val (.int shg), .val (.int shp), .val (.int qa0), .val (.int qa1), .val (.int qla), .val (.int qb0), .val (.int qb1), .val (.int qlb), .val (.int ga0), .val (.int ga1), .val (.int gla), .unset, .unset, .unset, .unset, .unset, .unset, .unset, .unset, .unset, .unset, .unset, .unset, .unset, .unset, .unset, .unset, .unset, .unset, .unset] [])) _
      refine XS.iload X44.here hx rfl (hb hby at_159) rfl ?_
      show Steps p.tables e below (T44.setTop (mkF m 161 #[.val (.int p1), .val (.int p2), .val (.int p3), .val (.int p4), .val (.int p5), .val (.int shq), .val (.int shg), .val (.int shp), .val (.int qa0), .val (.int qa1), .val (.int qla), .val (.int qb0), .val (.int qb1), .val (.int qlb), .val (.int ga0), .val (.int ga1), .val (.int gla), .unset, .unset, .unset, .unset, .unset, .unset, .unset, .unset, .unset, .unset, .unset, .unset, .unset, .unset, .unset, .unset, .unset, .unset, .unset] [(.int ga0)])) _
      refine XS.goto X44.here hx rfl (pc0 := 161) (pc' := 172) rfl (hb hby at_161) (by decide) (by decide) ?_
      show Steps p.tables e below (T44.setTop (mkF m 172 #[.val (.int p1), .val (.int p2), .val (.int p3), .val (.int p4), .val (.int p5), .val (.int shq), .val (.int shg), .val (.int shp), .val (.int qa0), .val (.int qa1), .val (.int qla), .val (.int qb0), .val (.int qb1), .val (.int qlb), .val (.int ga0), .val (.int ga1), .val (.int gla), .unset, .unset, .unset, .unset, .unset, .unset, .unset, .unset, .unset, .unset, .unset, .unset, .unset, .unset, .unset, .unset, .unset, .unset, .unset] [(.int ga0)])) _
      simp only [if_neg hc49] at k
      exact k
  obtain ⟨gb0, h_gb0⟩ : ∃ z : Int32, z = (if shg = (0 : Int32) then (((p2.toUInt32 >>> ((16 : Int32) &&& 31).toUInt32).toInt32) &&& (255 : Int32)) else ga0) := ⟨_, rfl⟩
  have K51 : ∀ t, Steps p.tables e below (T44.setTop (mkF m 172 #[.val (.int p1), .val (.int p2), .val (.int p3), .val (.int p4), .val (.int p5), .val (.int shq), .val (.int shg), .val (.int shp), .val (.int qa0), .val (.int qa1), .val (.int qla), .val (.int qb0), .val (.int qb1), .val (.int qlb), .val (.int ga0), .val (.int ga1), .val (.int gla), .unset, .unset, .unset, .unset, .unset, .unset, .unset, .unset, .unset, .unset, .unset, .unset, .unset, .unset, .unset, .unset, .unset, .unset, .unset] [(.int gb0)])) t → Steps p.tables e below G t := by rw [h_gb0]; exact K50
  have hb_gb0 := own_if255 h_gb0 hb_ga0
  have K52 : ∀ t, Steps p.tables e below (T44.setTop (mkF m 176 #[.val (.int p1), .val (.int p2), .val (.int p3), .val (.int p4), .val (.int p5), .val (.int shq), .val (.int shg), .val (.int shp), .val (.int qa0), .val (.int qa1), .val (.int qla), .val (.int qb0), .val (.int qb1), .val (.int qlb), .val (.int ga0), .val (.int ga1), .val (.int gla), .val (.int gb0), .unset, .unset, .unset, .unset, .unset, .unset, .unset, .unset, .unset, .unset, .unset, .unset, .unset, .unset, .unset, .unset, .unset, .unset] [(.int shg)])) t → Steps p.tables e below G t := by
    intro t k
    refine K51 t ?_
    show Steps p.tables e below (T44.setTop (mkF m 172 #[.val (.int p1), .val (.int p2), .val (.int p3), .val (.int p4), .val (.int p5), .val (.int shq), .val (.int shg), .val (.int shp), .val (.int qa0), .val (.int qa1), .val (.int qla), .val (.int qb0), .val (.int qb1), .val (.int qlb), .val (.int ga0), .val (.int ga1), .val (.int gla), .unset, .unset, .unset, .unset, .unset, .unset, .unset, .unset, .unset, .unset, .unset, .unset, .unset, .unset, .unset, .unset, .unset, .unset, .unset] [(.int gb0)])) _
    refine XS.istore X44.here hx rfl (hb hby at_172) rfl (l' := #[.val (.int p1), .val (.int p2), .val (.int p3), .val (.int p4), .val (.int p5), .val (.int shq), .val (.int shg), .val (.int shp), .val (.int qa0), .val (.int qa1), .val (.int qla), .val (.int qb0), .val (.int qb1), .val (.int qlb), .val (.int ga0), .val (.int ga1), .val (.int gla), .val (.int gb0), .unset, .unset, .unset, .unset, .unset, .unset, .unset, .unset, .unset, .unset, .unset, .unset, .unset, .unset, .unset, .unset, .unset, .unset]) rfl ?_
    show Steps p.tables e below (T44.setTop (mkF m 174 #[.val (.int p1), .val (.int p2), .val (.int p3), .val (.int p4), .val (.int p5), .val (.int shq), .val (.int shg), .val (.int shp), .val (.int qa0), .val (.int qa1), .val (.int qla), .val (.int qb0), .val (.int qb1), .val (.int qlb), .val (.int ga0), .val (.int ga1), .val (.int gla), .val (.int gb0), .unset, .unset, .unset, .unset, .unset, .unset, .unset, .unset, .unset, .unset, .unset, .unset, .unset, .unset, .unset, .unset, .unset, .unset] [])) _
    refine XS.iload X44.here hx rfl (hb hby at_174) rfl ?_
    show Steps p.tables e below (T44.setTop (mkF m 176 #[.val (.int p1), .val (.int p2), .val (.int p3), .val (.int p4), .val (.int p5), .val (.int shq), .val (.int shg), .val (.int shp), .val (.int qa0), .val (.int qa1), .val (.int qla), .val (.int qb0), .val (.int qb1), .val (.int qlb), .val (.int ga0), .val (.int ga1), .val (.int gla), .val (.int gb0), .unset, .unset, .unset, .unset, .unset, .unset, .unset, .unset, .unset, .unset, .unset, .unset, .unset, .unset, .unset, .unset, .unset, .unset] [(.int shg)])) _
    exact k
  have K54 : ∀ t, Steps p.tables e below (T44.setTop (mkF m 192 #[.val (.int p1), .val (.int p2), .val (.int p3), .val (.int p4), .val (.int p5), .val (.int shq), .val (.int shg), .val (.int shp), .val (.int qa0), .val (.int qa1), .val (.int qla), .val (.int qb0), .val (.int qb1), .val (.int qlb), .val (.int ga0), .val (.int ga1), .val (.int gla), .val (.int gb0), .unset, .unset, .unset, .unset, .unset, .unset, .unset, .unset, .unset, .unset, .unset, .unset, .unset, .unset, .unset, .unset, .unset, .unset] [(.int (if shg = (0 : Int32) then (((p2.toUInt32 >>> ((24 : Int32) &&& 31).toUInt32).toInt32) &&& (255 : Int32)) else ga1))])) t → Steps p.tables e below G t := by
    intro t k
    refine K52 t ?_
    by_cases hc53 : shg = (0 : Int32)
    · show Steps p.tables e below (T44.setTop (mkF m 176 #[.val (.int p1), .val (.int p2), .val (.int p3), .val (.int p4), .val (.int p5), .val (.int shq), .val (.int shg), .val (.int shp), .val (.int qa0), .val (.int qa1), .val (.int qla), .val (.int qb0), .val (.int qb1), .val (.int qlb), .val (.int ga0), .val (.int ga1), .val (.int gla), .val (.int gb0), .unset, .unset, .unset, .unset, .unset, .unset, .unset, .unset, .unset, .unset, .unset, .unset, .unset, .unset, .unset, .unset, .unset, .unset] [(.int shg)])) _
      refine XS.ifYes X44.here hx rfl (pc0 := 176) (pc' := 184) rfl (hb hby at_176) rfl ((if0 _ _).trans (teq hc53).1) (by decide) (by decide) ?_
      show Steps p.tables e below (T44.setTop (mkF m 184 #[.val (.int p1), .val (.int p2), .val (.int p3), .val (.int p4), .val (.int p5), .val (.int shq), .val (.int shg), .val (.int shp), .val (.int qa0), .val (.int qa1), .val (.int qla), .val (.int qb0), .val (.int qb1), .val (.int qlb), .val (.int ga0), .val (.int ga1), .val (.int gla), .val (.int gb0), .unset, .unset, .unset, .unset, .unset, .unset, .unset, .unset, .unset, .unset, .unset, .unset, .unset, .unset, .unset, .unset, .unset, .unset] [])) _
      refine XS.iloadN X44.here hx rfl (hb hby at_184) rfl ?_
      show Steps p.tables e below (T44.setTop (mkF m 185 #[.val (.int p1), .val (.int p2), .val (.int p3), .val (.int p4), .val (.int p5), .val (.int shq), .val (.int shg), .val (.int shp), .val (.int qa0), .val (.int qa1), .val (.int qla), .val (.int qb0), .val (.int qb1), .val (.int qlb), .val (.int ga0), .val (.int ga1), .val (.int gla), .val (.int gb0), .unset, .unset, .unset, .unset, .unset, .unset, .unset, .unset, .unset, .unset, .unset, .unset, .unset, .unset, .unset, .unset, .unset, .unset] [(.int p2)])) _
      refine XS.bipush X44.here hx rfl (hb hby at_185) ?_
      show Steps p.tables e below (T44.setTop (mkF m 187 #[.val (.int p1), .val (.int p2), .val (.int p3), .val (.int p4), .val (.int p5), .val (.int shq), .val (.int shg), .val (.int shp), .val (.int qa0), .val (.int qa1), .val (.int qla), .val (.int qb0), .val (.int qb1), .val (.int qlb), .val (.int ga0), .val (.int ga1), .val (.int gla), .val (.int gb0), .unset, .unset, .unset, .unset, .unset, .unset, .unset, .unset, .unset, .unset, .unset, .unset, .unset, .unset, .unset, .unset, .unset, .unset] [(.int (24 : Int32)), (.int p2)])) _
      refine XS.iushr X44.here hx rfl (hb hby at_187) rfl ?_
      show Steps p.tables e below (T44.setTop (mkF m 188 #[.val (.int p1), .val (.int p2), .val (.int p3), .val (.int p4), .val (.int p5), .val (.int shq), .val (.int shg), .val (.int shp), .val (.int qa0), .val (.int qa1), .val (.int qla), .val (.int qb0), .val (.int qb1), .val (.int qlb), .val (.int ga0), .val (.int ga1), .val (.int gla), .val (.int gb0), .unset, .unset, .unset, .unset, .unset, .unset, .unset, .unset, .unset, .unset, .unset, .unset, .unset, .unset, .unset, .unset, .unset, .unset] [(.int ((p2.toUInt32 >>> ((24 : Int32) &&& 31).toUInt32).toInt32))])) _
      refine XS.sipush X44.here hx rfl (hb hby at_188) ?_
      show Steps p.tables e below (T44.setTop (mkF m 191 #[.val (.int p1), .val (.int p2), .val (.int p3), .val (.int p4), .val (.int p5), .val (.int shq), .val (.int shg), .val (.int shp), .val (.int qa0), .val (.int qa1), .val (.int qla), .val (.int qb0), .val (.int qb1), .val (.int qlb), .val (.int ga0), .val (.int ga1), .val (.int gla), .val (.int gb0), .unset, .unset, .unset, .unset, .unset, .unset, .unset, .unset, .unset, .unset, .unset, .unset, .unset, .unset, .unset, .unset, .unset, .unset] [(.int (255 : Int32)), (.int ((p2.toUInt32 >>> ((24 : Int32) &&& 31).toUInt32).toInt32))])) _
      refine XS.iand X44.here hx rfl (hb hby at_191) rfl ?_
      show Steps p.tables e below (T44.setTop (mkF m 192 #[.val (.int p1), .val (.int p2), .val (.int p3), .val (.int p4), .val (.int p5), .val (.int shq), .val (.int shg), .val (.int shp), .val (.int qa0), .val (.int qa1), .val (.int qla), .val (.int qb0), .val (.int qb1), .val (.int qlb), .val (.int ga0), .val (.int ga1), .val (.int gla), .val (.int gb0), .unset, .unset, .unset, .unset, .unset, .unset, .unset, .unset, .unset, .unset, .unset, .unset, .unset, .unset, .unset, .unset, .unset, .unset] [(.int (((p2.toUInt32 >>> ((24 : Int32) &&& 31).toUInt32).toInt32) &&& (255 : Int32)))])) _
      simp only [if_pos hc53] at k
      exact k
    · show Steps p.tables e below (T44.setTop (mkF m 176 #[.val (.int p1), .val (.int p2), .val (.int p3), .val (.int p4), .val (.int p5), .val (.int shq), .val (.int shg), .val (.int shp), .val (.int qa0), .val (.int qa1), .val (.int qla), .val (.int qb0), .val (.int qb1), .val (.int qlb), .val (.int ga0), .val (.int ga1), .val (.int gla), .val (.int gb0), .unset, .unset, .unset, .unset, .unset, .unset, .unset, .unset, .unset, .unset, .unset, .unset, .unset, .unset, .unset, .unset, .unset, .unset] [(.int shg)])) _
      refine XS.ifNo X44.here hx rfl (hb hby at_176) rfl ((if0 _ _).trans (feq hc53).1) ?_
      show Steps p.tables e below (T44.setTop (mkF m 179 #[.val (.int p1), .val (.int p2), .val (.int p3), .val (.int p4), .val (.int p5), .val (.int shq), .val (.int shg), .val (.int shp), .val (.int qa0), .val (.int qa1), .val (.int qla), .val (.int qb0), .val (.int qb1), .val (.int qlb), .val (.int ga0), .val (.int ga1), .val (.int gla), .val (.int gb0), .unset, .unset, .unset, .unset, .unset, .unset, .unset, .unset, .unset, .unset, .unset, .unset, .unset, .unset, .unset, .unset, .unset, .unset] [])) _
      refine XS.iload X44.here hx rfl (hb hby at_179) rfl ?_
      show Steps p.tables e below (T44.setTop (mkF m 181 #[.val (.int p1), .val (.int p2), .val (.int p3), .val (.int p4), .val (.int p5), .val (.int shq), .val (.int shg), .val (.int shp), .val (.int qa0), .val (.int qa1), .val (.int qla), .val (.int qb0), .val (.int qb1), .val (.int qlb), .val (.int ga0), .val (.int ga1), .val (.int gla), .val (.int gb0), .unset, .unset, .unset, .unset, .unset, .unset, .unset, .unset, .unset, .unset, .unset, .unset, .unset, .unset, .unset, .unset, .unset, .unset] [(.int ga1)])) _
      refine XS.goto X44.here hx rfl (pc0 := 181) (pc' := 192) rfl (hb hby at_181) (by decide) (by decide) ?_
      show Steps p.tables e below (T44.setTop (mkF m 192 #[.val (.int p1), .val (.int p2), .val (.int p3), .val (.int p4), .val (.int p5), .val (.int shq), .val (.int shg), .val (.int shp), .val (.int qa0), .val (.int qa1), .val (.int qla), .val (.int qb0), .val (.int qb1), .val (.int qlb), .val (.int ga0), .val (.int ga1), .val (.int gla), .val (.int gb0), .unset, .unset, .unset, .unset, .unset, .unset, .unset, .unset, .unset, .unset, .unset, .unset, .unset, .unset, .unset, .unset, .unset, .unset] [(.int ga1)])) _
      simp only [if_neg hc53] at k
      exact k
  obtain ⟨gb1, h_gb1⟩ : ∃ z : Int32, z = (if shg = (0 : Int32) then (((p2.toUInt32 >>> ((24 : Int32) &&& 31).toUInt32).toInt32) &&& (255 : Int32)) else ga1) := ⟨_, rfl⟩
  have K55 : ∀ t, Steps p.tables e below (T44.setTop (mkF m 192 #[.val (.int p1), .val (.int p2), .val (.int p3), .val (.int p4), .val (.int p5), .val (.int shq), .val (.int shg), .val (.int shp), .val (.int qa0), .val (.int qa1), .val (.int qla), .val (.int qb0), .val (.int qb1), .val (.int qlb), .val (.int ga0), .val (.int ga1), .val (.int gla), .val (.int gb0), .unset, .unset, .unset, .unset, .unset, .unset, .unset, .unset, .unset, .unset, .unset, .unset, .unset, .unset, .unset, .unset, .unset, .unset] [(.int gb1)])) t → Steps p.tables e below G t := by rw [h_gb1]; exact K54
  have hb_gb1 := own_if255 h_gb1 hb_ga1
  have K56 : ∀ t, Steps p.tables e below (T44.setTop (mkF m 196 #[.val (.int p1), .val (.int p2), .val (.int p3), .val (.int p4), .val (.int p5), .val (.int shq), .val (.int shg), .val (.int shp), .val (.int qa0), .val (.int qa1), .val (.int qla), .val (.int qb0), .val (.int qb1), .val (.int qlb), .val (.int ga0), .val (.int ga1), .val (.int gla), .val (.int gb0), .val (.int gb1), .unset, .unset, .unset, .unset, .unset, .unset, .unset, .unset, .unset, .unset, .unset, .unset, .unset, .unset, .unset, .unset, .unset] [(.int shg)])) t → Steps p.tables e below G t := by
    intro t k
    refine K55 t ?_
    show Steps p.tables e below (T44.setTop (mkF m 192 #[.val (.int p1), .val (.int p2), .val (.int p3), .val (.int p4), .val (.int p5), .val (.int shq), .val (.int shg), .val (.int shp), .val (.int qa0), .val (.int qa1), .val (.int qla), .val (.int qb0), .val (.int qb1), .val (.int qlb), .val (.int ga0), .val (.int ga1), .val (.int gla), .val (.int gb0), .unset, .unset, .unset, .unset, .unset, .unset, .unset, .unset, .unset, .unset, .unset, .unset, .unset, .unset, .unset, .unset, .unset, .unset] [(.int gb1)])) _
    refine XS.istore X44.here hx rfl (hb hby at_192) rfl (l' := #[.val (.int p1), .val (.int p2), .val (.int p3), .val (.int p4), .val (.int p5), .val (.int shq), .val (.int shg), .val (.int shp), .val (.int qa0), .val (.int qa1), .val (.int qla), .val (.int qb0), .val (.int qb1), .val (.int qlb), .val (.int ga0), .val (.int ga1), .val (.int gla), .val (.int gb0), .val (.int gb1), .unset, .unset, .unset, .unset, .unset, .unset, .unset, .unset, .unset, .unset, .unset, .unset, .unset, .unset, .unset, .unset, .unset]) rfl ?_
    show Steps p.tables e below (T44.setTop (mkF m 194 #[.val (.int p1), .val (.int p2), .val (.int p3), .val (.int p4), .val (.int p5), .val (.int shq), .val (.int shg), .val (.int shp), .val (.int qa0), .val (.int qa1), .val (.int qla), .val (.int qb0), .val (.int qb1), .val (.int qlb), .val (.int ga0), .val (.int ga1), .val (.int gla), .val (.int gb0), .val (.int gb1), .unset, .unset, .unset, .unset, .unset, .unset, .unset, .unset, .unset, .unset, .unset, .unset, .unset, .unset, .unset, .unset, .unset] [])) _
    refine XS.iload X44.here hx rfl (hb hby at_194) rfl ?_
    show Steps p.tables e below (T44.setTop (mkF m 196 #[.val (.int p1), .val (.int p2), .val (.int p3), .val (.int p4), .val (.int p5), .val (.int shq), .val (.int shg), .val (.int shp), .val (.int qa0), .val (.int qa1), .val (.int qla), .val (.int qb0), .val (.int qb1), .val (.int qlb), .val (.int ga0), .val (.int ga1), .val (.int gla), .val (.int gb0), .val (.int gb1), .unset, .unset, .unset, .unset, .unset, .unset, .unset, .unset, .unset, .unset, .unset, .unset, .unset, .unset, .unset, .unset, .unset] [(.int shg)])) _
    exact k
  obtain ⟨T57, L57, X57, e57, N57, K57⟩ : ∃ (T : State) (L : List Loc), Stand p l e room_1 (s.setVm s.vm) m #[(.int p1), (.int p2), (.int p3), (.int p4), (.int p5)] below meth c T L 0 0 ∧ T.heap = h0 ∧ Fr n0 L ∧ ∀ t, Steps p.tables e below (T.setTop (mkF m 211 #[.val (.int p1), .val (.int p2), .val (.int p3), .val (.int p4), .val (.int p5), .val (.int shq), .val (.int shg), .val (.int shp), .val (.int qa0), .val (.int qa1), .val (.int qla), .val (.int qb0), .val (.int qb1), .val (.int qlb), .val (.int ga0), .val (.int ga1), .val (.int gla), .val (.int gb0), .val (.int gb1), .unset, .unset, .unset, .unset, .unset, .unset, .unset, .unset, .unset, .unset, .unset, .unset, .unset, .unset, .unset, .unset, .unset] [(.int (if shg = (0 : Int32) then (((p4.toUInt32 >>> ((6 : Int32) &&& 31).toUInt32).toInt32 &&& (3 : Int32)) % (3 : Int32)) else gla))])) t → Steps p.tables e below G t := by
    by_cases hc58 : shg = (0 : Int32)
    · have K59 : ∀ t, Steps p.tables e below (T44.setTop (mkF m 208 #[.val (.int p1), .val (.int p2), .val (.int p3), .val (.int p4), .val (.int p5), .val (.int shq), .val (.int shg), .val (.int shp), .val (.int qa0), .val (.int qa1), .val (.int qla), .val (.int qb0), .val (.int qb1), .val (.int qlb), .val (.int ga0), .val (.int ga1), .val (.int gla), .val (.int gb0), .val (.int gb1), .unset, .unset, .unset, .unset, .unset, .unset, .unset, .unset, .unset, .unset, .unset, .unset, .unset, .unset, .unset, .unset, .unset] [(.int ((p4.toUInt32 >>> ((6 : Int32) &&& 31).toUInt32).toInt32))])) t → Steps p.tables e below G t := by
        intro t k
        refine K56 t ?_
        show Steps p.tables e below (T44.setTop (mkF m 196 #[.val (.int p1), .val (.int p2), .val (.int p3), .val (.int p4), .val (.int p5), .val (.int shq), .val (.int shg), .val (.int shp), .val (.int qa0), .val (.int qa1), .val (.int qla), .val (.int qb0), .val (.int qb1), .val (.int qlb), .val (.int ga0), .val (.int ga1), .val (.int gla), .val (.int gb0), .val (.int gb1), .unset, .unset, .unset, .unset, .unset, .unset, .unset, .unset, .unset, .unset, .unset, .unset, .unset, .unset, .unset, .unset, .unset] [(.int shg)])) _
        refine XS.ifYes X44.here hx rfl (pc0 := 196) (pc' := 204) rfl (hb hby at_196) rfl ((if0 _ _).trans (teq hc58).1) (by decide) (by decide) ?_
        show Steps p.tables e below (T44.setTop (mkF m 204 #[.val (.int p1), .val (.int p2), .val (.int p3), .val (.int p4), .val (.int p5), .val (.int shq), .val (.int shg), .val (.int shp), .val (.int qa0), .val (.int qa1), .val (.int qla), .val (.int qb0), .val (.int qb1), .val (.int qlb), .val (.int ga0), .val (.int ga1), .val (.int gla), .val (.int gb0), .val (.int gb1), .unset, .unset, .unset, .unset, .unset, .unset, .unset, .unset, .unset, .unset, .unset, .unset, .unset, .unset, .unset, .unset, .unset] [])) _
        refine XS.iloadN X44.here hx rfl (hb hby at_204) rfl ?_
        show Steps p.tables e below (T44.setTop (mkF m 205 #[.val (.int p1), .val (.int p2), .val (.int p3), .val (.int p4), .val (.int p5), .val (.int shq), .val (.int shg), .val (.int shp), .val (.int qa0), .val (.int qa1), .val (.int qla), .val (.int qb0), .val (.int qb1), .val (.int qlb), .val (.int ga0), .val (.int ga1), .val (.int gla), .val (.int gb0), .val (.int gb1), .unset, .unset, .unset, .unset, .unset, .unset, .unset, .unset, .unset, .unset, .unset, .unset, .unset, .unset, .unset, .unset, .unset] [(.int p4)])) _
        refine XS.bipush X44.here hx rfl (hb hby at_205) ?_
        show Steps p.tables e below (T44.setTop (mkF m 207 #[.val (.int p1), .val (.int p2), .val (.int p3), .val (.int p4), .val (.int p5), .val (.int shq), .val (.int shg), .val (.int shp), .val (.int qa0), .val (.int qa1), .val (.int qla), .val (.int qb0), .val (.int qb1), .val (.int qlb), .val (.int ga0), .val (.int ga1), .val (.int gla), .val (.int gb0), .val (.int gb1), .unset, .unset, .unset, .unset, .unset, .unset, .unset, .unset, .unset, .unset, .unset, .unset, .unset, .unset, .unset, .unset, .unset] [(.int (6 : Int32)), (.int p4)])) _
        refine XS.iushr X44.here hx rfl (hb hby at_207) rfl ?_
        show Steps p.tables e below (T44.setTop (mkF m 208 #[.val (.int p1), .val (.int p2), .val (.int p3), .val (.int p4), .val (.int p5), .val (.int shq), .val (.int shg), .val (.int shp), .val (.int qa0), .val (.int qa1), .val (.int qla), .val (.int qb0), .val (.int qb1), .val (.int qlb), .val (.int ga0), .val (.int ga1), .val (.int gla), .val (.int gb0), .val (.int gb1), .unset, .unset, .unset, .unset, .unset, .unset, .unset, .unset, .unset, .unset, .unset, .unset, .unset, .unset, .unset, .unset, .unset] [(.int ((p4.toUInt32 >>> ((6 : Int32) &&& 31).toUInt32).toInt32))])) _
        exact k
      obtain ⟨_, _, ⟨T60, L60, kk60, nn60⟩, -, X60, ⟨Lc60, hQ60, lq60, yq60, zq60⟩, st60⟩ := Jvm.LawKit.callS X44 hx (y := (⟨"com/example/conq/conq/model/GroupPartitionEqualsPinLaw", "len", "(I)I"⟩ : MethodName)) hown (mvT hZ (hw _ (List.mem_of_getElem? (i := 0) rfl))) (mvT hZ (hw _ (List.mem_of_getElem? (i := 1) rfl))) (mvT hZ (hw _ (List.mem_of_getElem? (i := 2) rfl))) (mvT hZ (hw _ (List.mem_of_getElem? (i := 3) rfl))) (by decide) (backOf (W := 0) (rm1 l Z a0 hw [] ((p4.toUInt32 >>> ((6 : Int32) &&& 31).toUInt32).toInt32) h0 n0 Z0 ) hZ (hw _ (List.mem_of_getElem? (i := 3) rfl)) (hw _ (List.mem_of_getElem? (i := 2) rfl)) (by decide) (by decide)) (g := (mkF m 208 #[.val (.int p1), .val (.int p2), .val (.int p3), .val (.int p4), .val (.int p5), .val (.int shq), .val (.int shg), .val (.int shp), .val (.int qa0), .val (.int qa1), .val (.int qla), .val (.int qb0), .val (.int qb1), .val (.int qlb), .val (.int ga0), .val (.int ga1), .val (.int gla), .val (.int gb0), .val (.int gb1), .unset, .unset, .unset, .unset, .unset, .unset, .unset, .unset, .unset, .unset, .unset, .unset, .unset, .unset, .unset, .unset, .unset] [(.int ((p4.toUInt32 >>> ((6 : Int32) &&& 31).toUInt32).toInt32))])) rfl (by rw [hml]; rfl) (argsL := [(.int ((p4.toUInt32 >>> ((6 : Int32) &&& 31).toUInt32).toInt32))]) (rest := []) (lenOf pd_8 rfl) rfl (by show 2 * 0 + _ ≤ _; exact Nat.le_of_eq rfl) (hb hby at_208) (fun _ _ => ⟨rfl, e44, (by decide : 0 + 0 ≤ _), (by decide : 0 + 0 ≤ _)⟩)
      dsimp only [Pt.U, Pt.locs, Pt.cells, Pt.slots] at X60 lq60 yq60 zq60 st60 hQ60
      subst lq60 yq60 zq60
      obtain ⟨rfl, Nq60, e60⟩ := hQ60
      have N61 := Fr.app N45 Nq60
      have K62 : ∀ t, Steps p.tables e below (T60.setTop (mkF m 211 #[.val (.int p1), .val (.int p2), .val (.int p3), .val (.int p4), .val (.int p5), .val (.int shq), .val (.int shg), .val (.int shp), .val (.int qa0), .val (.int qa1), .val (.int qla), .val (.int qb0), .val (.int qb1), .val (.int qlb), .val (.int ga0), .val (.int ga1), .val (.int gla), .val (.int gb0), .val (.int gb1), .unset, .unset, .unset, .unset, .unset, .unset, .unset, .unset, .unset, .unset, .unset, .unset, .unset, .unset, .unset, .unset, .unset] [(.int ((((p4.toUInt32 >>> ((6 : Int32) &&& 31).toUInt32).toInt32) &&& (3 : Int32)) % (3 : Int32)))])) t → Steps p.tables e below G t := fun t k => K59 t (st60 _ k)
      exact ⟨_, _, X60, e60, N61, by simp only [if_pos hc58]; exact K62⟩
    · have K63 : ∀ t, Steps p.tables e below (T44.setTop (mkF m 211 #[.val (.int p1), .val (.int p2), .val (.int p3), .val (.int p4), .val (.int p5), .val (.int shq), .val (.int shg), .val (.int shp), .val (.int qa0), .val (.int qa1), .val (.int qla), .val (.int qb0), .val (.int qb1), .val (.int qlb), .val (.int ga0), .val (.int ga1), .val (.int gla), .val (.int gb0), .val (.int gb1), .unset, .unset, .unset, .unset, .unset, .unset, .unset, .unset, .unset, .unset, .unset, .unset, .unset, .unset, .unset, .unset, .unset] [(.int gla)])) t → Steps p.tables e below G t := by
        intro t k
        refine K56 t ?_
        show Steps p.tables e below (T44.setTop (mkF m 196 #[.val (.int p1), .val (.int p2), .val (.int p3), .val (.int p4), .val (.int p5), .val (.int shq), .val (.int shg), .val (.int shp), .val (.int qa0), .val (.int qa1), .val (.int qla), .val (.int qb0), .val (.int qb1), .val (.int qlb), .val (.int ga0), .val (.int ga1), .val (.int gla), .val (.int gb0), .val (.int gb1), .unset, .unset, .unset, .unset, .unset, .unset, .unset, .unset, .unset, .unset, .unset, .unset, .unset, .unset, .unset, .unset, .unset] [(.int shg)])) _
        refine XS.ifNo X44.here hx rfl (hb hby at_196) rfl ((if0 _ _).trans (feq hc58).1) ?_
        show Steps p.tables e below (T44.setTop (mkF m 199 #[.val (.int p1), .val (.int p2), .val (.int p3), .val (.int p4), .val (.int p5), .val (.int shq), .val (.int shg), .val (.int shp), .val (.int qa0), .val (.int qa1), .val (.int qla), .val (.int qb0), .val (.int qb1), .val (.int qlb), .val (.int ga0), .val (.int ga1), .val (.int gla), .val (.int gb0), .val (.int gb1), .unset, .unset, .unset, .unset, .unset, .unset, .unset, .unset, .unset, .unset, .unset, .unset, .unset, .unset, .unset, .unset, .unset] [])) _
        refine XS.iload X44.here hx rfl (hb hby at_199) rfl ?_
        show Steps p.tables e below (T44.setTop (mkF m 201 #[.val (.int p1), .val (.int p2), .val (.int p3), .val (.int p4), .val (.int p5), .val (.int shq), .val (.int shg), .val (.int shp), .val (.int qa0), .val (.int qa1), .val (.int qla), .val (.int qb0), .val (.int qb1), .val (.int qlb), .val (.int ga0), .val (.int ga1), .val (.int gla), .val (.int gb0), .val (.int gb1), .unset, .unset, .unset, .unset, .unset, .unset, .unset, .unset, .unset, .unset, .unset, .unset, .unset, .unset, .unset, .unset, .unset] [(.int gla)])) _
        refine XS.goto X44.here hx rfl (pc0 := 201) (pc' := 211) rfl (hb hby at_201) (by decide) (by decide) ?_
        show Steps p.tables e below (T44.setTop (mkF m 211 #[.val (.int p1), .val (.int p2), .val (.int p3), .val (.int p4), .val (.int p5), .val (.int shq), .val (.int shg), .val (.int shp), .val (.int qa0), .val (.int qa1), .val (.int qla), .val (.int qb0), .val (.int qb1), .val (.int qlb), .val (.int ga0), .val (.int ga1), .val (.int gla), .val (.int gb0), .val (.int gb1), .unset, .unset, .unset, .unset, .unset, .unset, .unset, .unset, .unset, .unset, .unset, .unset, .unset, .unset, .unset, .unset, .unset] [(.int gla)])) _
        exact k
      exact ⟨_, _, X44, e44, N45, by simp only [if_neg hc58]; exact K63⟩
  obtain ⟨glb, h_glb⟩ : ∃ z : Int32, z = (if shg = (0 : Int32) then (((p4.toUInt32 >>> ((6 : Int32) &&& 31).toUInt32).toInt32 &&& (3 : Int32)) % (3 : Int32)) else gla) := ⟨_, rfl⟩
  have K64 : ∀ t, Steps p.tables e below (T57.setTop (mkF m 211 #[.val (.int p1), .val (.int p2), .val (.int p3), .val (.int p4), .val (.int p5), .val (.int shq), .val (.int shg), .val (.int shp), .val (.int qa0), .val (.int qa1), .val (.int qla), .val (.int qb0), .val (.int qb1), .val (.int qlb), .val (.int ga0), .val (.int ga1), .val (.int gla), .val (.int gb0), .val (.int gb1), .unset, .unset, .unset, .unset, .unset, .unset, .unset, .unset, .unset, .unset, .unset, .unset, .unset, .unset, .unset, .unset, .unset] [(.int glb)])) t → Steps p.tables e below G t := by rw [h_glb]; exact K57
  have hl_glb := own_ifl3 h_glb hl_gla
  have K65 : ∀ t, Steps p.tables e below (T57.setTop (mkF m 218 #[.val (.int p1), .val (.int p2), .val (.int p3), .val (.int p4), .val (.int p5), .val (.int shq), .val (.int shg), .val (.int shp), .val (.int qa0), .val (.int qa1), .val (.int qla), .val (.int qb0), .val (.int qb1), .val (.int qlb), .val (.int ga0), .val (.int ga1), .val (.int gla), .val (.int gb0), .val (.int gb1), .val (.int glb), .unset, .unset, .unset, .unset, .unset, .unset, .unset, .unset, .unset, .unset, .unset, .unset, .unset, .unset, .unset, .unset] [(.int (p3 &&& (255 : Int32)))])) t → Steps p.tables e below G t := by
    intro t k
    refine K64 t ?_
    show Steps p.tables e below (T57.setTop (mkF m 211 #[.val (.int p1), .val (.int p2), .val (.int p3), .val (.int p4), .val (.int p5), .val (.int shq), .val (.int shg), .val (.int shp), .val (.int qa0), .val (.int qa1), .val (.int qla), .val (.int qb0), .val (.int qb1), .val (.int qlb), .val (.int ga0), .val (.int ga1), .val (.int gla), .val (.int gb0), .val (.int gb1), .unset, .unset, .unset, .unset, .unset, .unset, .unset, .unset, .unset, .unset, .unset, .unset, .unset, .unset, .unset, .unset, .unset] [(.int glb)])) _
    refine XS.istore X57.here hx rfl (hb hby at_211) rfl (l' := #[.val (.int p1), .val (.int p2), .val (.int p3), .val (.int p4), .val (.int p5), .val (.int shq), .val (.int shg), .val (.int shp), .val (.int qa0), .val (.int qa1), .val (.int qla), .val (.int qb0), .val (.int qb1), .val (.int qlb), .val (.int ga0), .val (.int ga1), .val (.int gla), .val (.int gb0), .val (.int gb1), .val (.int glb), .unset, .unset, .unset, .unset, .unset, .unset, .unset, .unset, .unset, .unset, .unset, .unset, .unset, .unset, .unset, .unset]) rfl ?_
    show Steps p.tables e below (T57.setTop (mkF m 213 #[.val (.int p1), .val (.int p2), .val (.int p3), .val (.int p4), .val (.int p5), .val (.int shq), .val (.int shg), .val (.int shp), .val (.int qa0), .val (.int qa1), .val (.int qla), .val (.int qb0), .val (.int qb1), .val (.int qlb), .val (.int ga0), .val (.int ga1), .val (.int gla), .val (.int gb0), .val (.int gb1), .val (.int glb), .unset, .unset, .unset, .unset, .unset, .unset, .unset, .unset, .unset, .unset, .unset, .unset, .unset, .unset, .unset, .unset] [])) _
    refine XS.iloadN X57.here hx rfl (hb hby at_213) rfl ?_
    show Steps p.tables e below (T57.setTop (mkF m 214 #[.val (.int p1), .val (.int p2), .val (.int p3), .val (.int p4), .val (.int p5), .val (.int shq), .val (.int shg), .val (.int shp), .val (.int qa0), .val (.int qa1), .val (.int qla), .val (.int qb0), .val (.int qb1), .val (.int qlb), .val (.int ga0), .val (.int ga1), .val (.int gla), .val (.int gb0), .val (.int gb1), .val (.int glb), .unset, .unset, .unset, .unset, .unset, .unset, .unset, .unset, .unset, .unset, .unset, .unset, .unset, .unset, .unset, .unset] [(.int p3)])) _
    refine XS.sipush X57.here hx rfl (hb hby at_214) ?_
    show Steps p.tables e below (T57.setTop (mkF m 217 #[.val (.int p1), .val (.int p2), .val (.int p3), .val (.int p4), .val (.int p5), .val (.int shq), .val (.int shg), .val (.int shp), .val (.int qa0), .val (.int qa1), .val (.int qla), .val (.int qb0), .val (.int qb1), .val (.int qlb), .val (.int ga0), .val (.int ga1), .val (.int gla), .val (.int gb0), .val (.int gb1), .val (.int glb), .unset, .unset, .unset, .unset, .unset, .unset, .unset, .unset, .unset, .unset, .unset, .unset, .unset, .unset, .unset, .unset] [(.int (255 : Int32)), (.int p3)])) _
    refine XS.iand X57.here hx rfl (hb hby at_217) rfl ?_
    show Steps p.tables e below (T57.setTop (mkF m 218 #[.val (.int p1), .val (.int p2), .val (.int p3), .val (.int p4), .val (.int p5), .val (.int shq), .val (.int shg), .val (.int shp), .val (.int qa0), .val (.int qa1), .val (.int qla), .val (.int qb0), .val (.int qb1), .val (.int qlb), .val (.int ga0), .val (.int ga1), .val (.int gla), .val (.int gb0), .val (.int gb1), .val (.int glb), .unset, .unset, .unset, .unset, .unset, .unset, .unset, .unset, .unset, .unset, .unset, .unset, .unset, .unset, .unset, .unset] [(.int (p3 &&& (255 : Int32)))])) _
    exact k
  obtain ⟨pa0, h_pa0⟩ : ∃ z : Int32, z = (p3 &&& (255 : Int32)) := ⟨_, rfl⟩
  have K66 : ∀ t, Steps p.tables e below (T57.setTop (mkF m 218 #[.val (.int p1), .val (.int p2), .val (.int p3), .val (.int p4), .val (.int p5), .val (.int shq), .val (.int shg), .val (.int shp), .val (.int qa0), .val (.int qa1), .val (.int qla), .val (.int qb0), .val (.int qb1), .val (.int qlb), .val (.int ga0), .val (.int ga1), .val (.int gla), .val (.int gb0), .val (.int gb1), .val (.int glb), .unset, .unset, .unset, .unset, .unset, .unset, .unset, .unset, .unset, .unset, .unset, .unset, .unset, .unset, .unset, .unset] [(.int pa0)])) t → Steps p.tables e below G t := by rw [h_pa0]; exact K65
  have hb_pa0 := own_255 h_pa0
  have K67 : ∀ t, Steps p.tables e below (T57.setTop (mkF m 228 #[.val (.int p1), .val (.int p2), .val (.int p3), .val (.int p4), .val (.int p5), .val (.int shq), .val (.int shg), .val (.int shp), .val (.int qa0), .val (.int qa1), .val (.int qla), .val (.int qb0), .val (.int qb1), .val (.int qlb), .val (.int ga0), .val (.int ga1), .val (.int gla), .val (.int gb0), .val (.int gb1), .val (.int glb), .val (.int pa0), .unset, .unset, .unset, .unset, .unset, .unset, .unset, .unset, .unset, .unset, .unset, .unset, .unset, .unset, .unset] [(.int (((p3.toUInt32 >>> ((8 : Int32) &&& 31).toUInt32).toInt32) &&& (255 : Int32)))])) t → Steps p.tables e below G t := by
    intro t k
    refine K66 t ?_
    show Steps p.tables e below (T57.setTop (mkF m 218 #[.val (.int p1), .val (.int p2), .val (.int p3), .val (.int p4), .val (.int p5), .val (.int shq), .val (.int shg), .val (.int shp), .val (.int qa0), .val (.int qa1), .val (.int qla), .val (.int qb0), .val (.int qb1), .val (.int qlb), .val (.int ga0), .val (.int ga1), .val (.int gla), .val (.int gb0), .val (.int gb1), .val (.int glb), .unset, .unset, .unset, .unset, .unset, .unset, .unset, .unset, .unset, .unset, .unset, .unset, .unset, .unset, .unset, .unset] [(.int pa0)])) _
    refine XS.istore X57.here hx rfl (hb hby at_218) rfl (l' := #[.val (.int p1), .val (.int p2), .val (.int p3), .val (.int p4), .val (.int p5), .val (.int shq), .val (.int shg), .val (.int shp), .val (.int qa0), .val (.int qa1), .val (.int qla), .val (.int qb0), .val (.int qb1), .val (.int qlb), .val (.int ga0), .val (.int ga1), .val (.int gla), .val (.int gb0), .val (.int gb1), .val (.int glb), .val (.int pa0), .unset, .unset, .unset, .unset, .unset, .unset, .unset, .unset, .unset, .unset, .unset, .unset, .unset, .unset, .unset]) rfl ?_
    show Steps p.tables e below (T57.setTop (mkF m 220 #[.val (.int p1), .val (.int p2), .val (.int p3), .val (.int p4), .val (.int p5), .val (.int shq), .val (.int shg), .val (.int shp), .val (.int qa0), .val (.int qa1), .val (.int qla), .val (.int qb0), .val (.int qb1), .val (.int qlb), .val (.int ga0), .val (.int ga1), .val (.int gla), .val (.int gb0), .val (.int gb1), .val (.int glb), .val (.int pa0), .unset, .unset, .unset, .unset, .unset, .unset, .unset, .unset, .unset, .unset, .unset, .unset, .unset, .unset, .unset] [])) _
    refine XS.iloadN X57.here hx rfl (hb hby at_220) rfl ?_
    show Steps p.tables e below (T57.setTop (mkF m 221 #[.val (.int p1), .val (.int p2), .val (.int p3), .val (.int p4), .val (.int p5), .val (.int shq), .val (.int shg), .val (.int shp), .val (.int qa0), .val (.int qa1), .val (.int qla), .val (.int qb0), .val (.int qb1), .val (.int qlb), .val (.int ga0), .val (.int ga1), .val (.int gla), .val (.int gb0), .val (.int gb1), .val (.int glb), .val (.int pa0), .unset, .unset, .unset, .unset, .unset, .unset, .unset, .unset, .unset, .unset, .unset, .unset, .unset, .unset, .unset] [(.int p3)])) _
    refine XS.bipush X57.here hx rfl (hb hby at_221) ?_
    show Steps p.tables e below (T57.setTop (mkF m 223 #[.val (.int p1), .val (.int p2), .val (.int p3), .val (.int p4), .val (.int p5), .val (.int shq), .val (.int shg), .val (.int shp), .val (.int qa0), .val (.int qa1), .val (.int qla), .val (.int qb0), .val (.int qb1), .val (.int qlb), .val (.int ga0), .val (.int ga1), .val (.int gla), .val (.int gb0), .val (.int gb1), .val (.int glb), .val (.int pa0), .unset, .unset, .unset, .unset, .unset, .unset, .unset, .unset, .unset, .unset, .unset, .unset, .unset, .unset, .unset] [(.int (8 : Int32)), (.int p3)])) _
    refine XS.iushr X57.here hx rfl (hb hby at_223) rfl ?_
    show Steps p.tables e below (T57.setTop (mkF m 224 #[.val (.int p1), .val (.int p2), .val (.int p3), .val (.int p4), .val (.int p5), .val (.int shq), .val (.int shg), .val (.int shp), .val (.int qa0), .val (.int qa1), .val (.int qla), .val (.int qb0), .val (.int qb1), .val (.int qlb), .val (.int ga0), .val (.int ga1), .val (.int gla), .val (.int gb0), .val (.int gb1), .val (.int glb), .val (.int pa0), .unset, .unset, .unset, .unset, .unset, .unset, .unset, .unset, .unset, .unset, .unset, .unset, .unset, .unset, .unset] [(.int ((p3.toUInt32 >>> ((8 : Int32) &&& 31).toUInt32).toInt32))])) _
    refine XS.sipush X57.here hx rfl (hb hby at_224) ?_
    show Steps p.tables e below (T57.setTop (mkF m 227 #[.val (.int p1), .val (.int p2), .val (.int p3), .val (.int p4), .val (.int p5), .val (.int shq), .val (.int shg), .val (.int shp), .val (.int qa0), .val (.int qa1), .val (.int qla), .val (.int qb0), .val (.int qb1), .val (.int qlb), .val (.int ga0), .val (.int ga1), .val (.int gla), .val (.int gb0), .val (.int gb1), .val (.int glb), .val (.int pa0), .unset, .unset, .unset, .unset, .unset, .unset, .unset, .unset, .unset, .unset, .unset, .unset, .unset, .unset, .unset] [(.int (255 : Int32)), (.int ((p3.toUInt32 >>> ((8 : Int32) &&& 31).toUInt32).toInt32))])) _
    refine XS.iand X57.here hx rfl (hb hby at_227) rfl ?_
    show Steps p.tables e below (T57.setTop (mkF m 228 #[.val (.int p1), .val (.int p2), .val (.int p3), .val (.int p4), .val (.int p5), .val (.int shq), .val (.int shg), .val (.int shp), .val (.int qa0), .val (.int qa1), .val (.int qla), .val (.int qb0), .val (.int qb1), .val (.int qlb), .val (.int ga0), .val (.int ga1), .val (.int gla), .val (.int gb0), .val (.int gb1), .val (.int glb), .val (.int pa0), .unset, .unset, .unset, .unset, .unset, .unset, .unset, .unset, .unset, .unset, .unset, .unset, .unset, .unset, .unset] [(.int (((p3.toUInt32 >>> ((8 : Int32) &&& 31).toUInt32).toInt32) &&& (255 : Int32)))])) _
    exact k
  obtain ⟨pa1, h_pa1⟩ : ∃ z : Int32, z = (((p3.toUInt32 >>> ((8 : Int32) &&& 31).toUInt32).toInt32) &&& (255 : Int32)) := ⟨_, rfl⟩
  have K68 : ∀ t, Steps p.tables e below (T57.setTop (mkF m 228 #[.val (.int p1), .val (.int p2), .val (.int p3), .val (.int p4), .val (.int p5), .val (.int shq), .val (.int shg), .val (.int shp), .val (.int qa0), .val (.int qa1), .val (.int qla), .val (.int qb0), .val (.int qb1), .val (.int qlb), .val (.int ga0), .val (.int ga1), .val (.int gla), .val (.int gb0), .val (.int gb1), .val (.int glb), .val (.int pa0), .unset, .unset, .unset, .unset, .unset, .unset, .unset, .unset, .unset, .unset, .unset, .unset, .unset, .unset, .unset] [(.int pa1)])) t → Steps p.tables e below G t := by rw [h_pa1]; exact K67
  have hb_pa1 := own_255 h_pa1
  have K69 : ∀ t, Steps p.tables e below (T57.setTop (mkF m 234 #[.val (.int p1), .val (.int p2), .val (.int p3), .val (.int p4), .val (.int p5), .val (.int shq), .val (.int shg), .val (.int shp), .val (.int qa0), .val (.int qa1), .val (.int qla), .val (.int qb0), .val (.int qb1), .val (.int qlb), .val (.int ga0), .val (.int ga1), .val (.int gla), .val (.int gb0), .val (.int gb1), .val (.int glb), .val (.int pa0), .val (.int pa1), .unset, .unset, .unset, .unset, .unset, .unset, .unset, .unset, .unset, .unset, .unset, .unset, .unset, .unset] [(.int ((p4.toUInt32 >>> ((8 : Int32) &&& 31).toUInt32).toInt32))])) t → Steps p.tables e below G t := by
    intro t k
    refine K68 t ?_
    show Steps p.tables e below (T57.setTop (mkF m 228 #[.val (.int p1), .val (.int p2), .val (.int p3), .val (.int p4), .val (.int p5), .val (.int shq), .val (.int shg), .val (.int shp), .val (.int qa0), .val (.int qa1), .val (.int qla), .val (.int qb0), .val (.int qb1), .val (.int qlb), .val (.int ga0), .val (.int ga1), .val (.int gla), .val (.int gb0), .val (.int gb1), .val (.int glb), .val (.int pa0), .unset, .unset, .unset, .unset, .unset, .unset, .unset, .unset, .unset, .unset, .unset, .unset, .unset, .unset, .unset] [(.int pa1)])) _
    refine XS.istore X57.here hx rfl (hb hby at_228) rfl (l' := #[.val (.int p1), .val (.int p2), .val (.int p3), .val (.int p4), .val (.int p5), .val (.int shq), .val (.int shg), .val (.int shp), .val (.int qa0), .val (.int qa1), .val (.int qla), .val (.int qb0), .val (.int qb1), .val (.int qlb), .val (.int ga0), .val (.int ga1), .val (.int gla), .val (.int gb0), .val (.int gb1), .val (.int glb), .val (.int pa0), .val (.int pa1), .unset, .unset, .unset, .unset, .unset, .unset, .unset, .unset, .unset, .unset, .unset, .unset, .unset, .unset]) rfl ?_
    show Steps p.tables e below (T57.setTop (mkF m 230 #[.val (.int p1), .val (.int p2), .val (.int p3), .val (.int p4), .val (.int p5), .val (.int shq), .val (.int shg), .val (.int shp), .val (.int qa0), .val (.int qa1), .val (.int qla), .val (.int qb0), .val (.int qb1), .val (.int qlb), .val (.int ga0), .val (.int ga1), .val (.int gla), .val (.int gb0), .val (.int gb1), .val (.int glb), .val (.int pa0), .val (.int pa1), .unset, .unset, .unset, .unset, .unset, .unset, .unset, .unset, .unset, .unset, .unset, .unset, .unset, .unset] [])) _
    refine XS.iloadN X57.here hx rfl (hb hby at_230) rfl ?_
    show Steps p.tables e below (T57.setTop (mkF m 231 #[.val (.int p1), .val (.int p2), .val (.int p3), .val (.int p4), .val (.int p5), .val (.int shq), .val (.int shg), .val (.int shp), .val (.int qa0), .val (.int qa1), .val (.int qla), .val (.int qb0), .val (.int qb1), .val (.int qlb), .val (.int ga0), .val (.int ga1), .val (.int gla), .val (.int gb0), .val (.int gb1), .val (.int glb), .val (.int pa0), .val (.int pa1), .unset, .unset, .unset, .unset, .unset, .unset, .unset, .unset, .unset, .unset, .unset, .unset, .unset, .unset] [(.int p4)])) _
    refine XS.bipush X57.here hx rfl (hb hby at_231) ?_
    show Steps p.tables e below (T57.setTop (mkF m 233 #[.val (.int p1), .val (.int p2), .val (.int p3), .val (.int p4), .val (.int p5), .val (.int shq), .val (.int shg), .val (.int shp), .val (.int qa0), .val (.int qa1), .val (.int qla), .val (.int qb0), .val (.int qb1), .val (.int qlb), .val (.int ga0), .val (.int ga1), .val (.int gla), .val (.int gb0), .val (.int gb1), .val (.int glb), .val (.int pa0), .val (.int pa1), .unset, .unset, .unset, .unset, .unset, .unset, .unset, .unset, .unset, .unset, .unset, .unset, .unset, .unset] [(.int (8 : Int32)), (.int p4)])) _
    refine XS.iushr X57.here hx rfl (hb hby at_233) rfl ?_
    show Steps p.tables e below (T57.setTop (mkF m 234 #[.val (.int p1), .val (.int p2), .val (.int p3), .val (.int p4), .val (.int p5), .val (.int shq), .val (.int shg), .val (.int shp), .val (.int qa0), .val (.int qa1), .val (.int qla), .val (.int qb0), .val (.int qb1), .val (.int qlb), .val (.int ga0), .val (.int ga1), .val (.int gla), .val (.int gb0), .val (.int gb1), .val (.int glb), .val (.int pa0), .val (.int pa1), .unset, .unset, .unset, .unset, .unset, .unset, .unset, .unset, .unset, .unset, .unset, .unset, .unset, .unset] [(.int ((p4.toUInt32 >>> ((8 : Int32) &&& 31).toUInt32).toInt32))])) _
    exact k
  obtain ⟨_, _, ⟨T70, L70, kk70, nn70⟩, -, X70, ⟨Lc70, hQ70, lq70, yq70, zq70⟩, st70⟩ := Jvm.LawKit.callS X57 hx (y := (⟨"com/example/conq/conq/model/GroupPartitionEqualsPinLaw", "len", "(I)I"⟩ : MethodName)) hown (mvT hZ (hw _ (List.mem_of_getElem? (i := 0) rfl))) (mvT hZ (hw _ (List.mem_of_getElem? (i := 1) rfl))) (mvT hZ (hw _ (List.mem_of_getElem? (i := 2) rfl))) (mvT hZ (hw _ (List.mem_of_getElem? (i := 3) rfl))) (by decide) (backOf (W := 0) (rm1 l Z a0 hw [] ((p4.toUInt32 >>> ((8 : Int32) &&& 31).toUInt32).toInt32) h0 n0 Z0 ) hZ (hw _ (List.mem_of_getElem? (i := 3) rfl)) (hw _ (List.mem_of_getElem? (i := 2) rfl)) (by decide) (by decide)) (g := (mkF m 234 #[.val (.int p1), .val (.int p2), .val (.int p3), .val (.int p4), .val (.int p5), .val (.int shq), .val (.int shg), .val (.int shp), .val (.int qa0), .val (.int qa1), .val (.int qla), .val (.int qb0), .val (.int qb1), .val (.int qlb), .val (.int ga0), .val (.int ga1), .val (.int gla), .val (.int gb0), .val (.int gb1), .val (.int glb), .val (.int pa0), .val (.int pa1), .unset, .unset, .unset, .unset, .unset, .unset, .unset, .unset, .unset, .unset, .unset, .unset, .unset, .unset] [(.int ((p4.toUInt32 >>> ((8 : Int32) &&& 31).toUInt32).toInt32))])) rfl (by rw [hml]; rfl) (argsL := [(.int ((p4.toUInt32 >>> ((8 : Int32) &&& 31).toUInt32).toInt32))]) (rest := []) (lenOf pd_8 rfl) rfl (by show 2 * 0 + _ ≤ _; exact Nat.le_of_eq rfl) (hb hby at_234) (fun _ _ => ⟨rfl, e57, (by decide : 0 + 0 ≤ _), (by decide : 0 + 0 ≤ _)⟩)
  dsimp only [Pt.U, Pt.locs, Pt.cells, Pt.slots] at X70 lq70 yq70 zq70 st70 hQ70
  subst lq70 yq70 zq70
  obtain ⟨rfl, Nq70, e70⟩ := hQ70
  have N71 := Fr.app N57 Nq70
  have K72 : ∀ t, Steps p.tables e below (T70.setTop (mkF m 237 #[.val (.int p1), .val (.int p2), .val (.int p3), .val (.int p4), .val (.int p5), .val (.int shq), .val (.int shg), .val (.int shp), .val (.int qa0), .val (.int qa1), .val (.int qla), .val (.int qb0), .val (.int qb1), .val (.int qlb), .val (.int ga0), .val (.int ga1), .val (.int gla), .val (.int gb0), .val (.int gb1), .val (.int glb), .val (.int pa0), .val (.int pa1), .unset, .unset, .unset, .unset, .unset, .unset, .unset, .unset, .unset, .unset, .unset, .unset, .unset, .unset] [(.int ((((p4.toUInt32 >>> ((8 : Int32) &&& 31).toUInt32).toInt32) &&& (3 : Int32)) % (3 : Int32)))])) t → Steps p.tables e below G t := fun t k => K69 t (st70 _ k)
  obtain ⟨pla, h_pla⟩ : ∃ z : Int32, z = ((((p4.toUInt32 >>> ((8 : Int32) &&& 31).toUInt32).toInt32) &&& (3 : Int32)) % (3 : Int32)) := ⟨_, rfl⟩
  have K73 : ∀ t, Steps p.tables e below (T70.setTop (mkF m 237 #[.val (.int p1), .val (.int p2), .val (.int p3), .val (.int p4), .val (.int p5), .val (.int shq), .val (.int shg), .val (.int shp), .val (.int qa0), .val (.int qa1), .val (.int qla), .val (.int qb0), .val (.int qb1), .val (.int qlb), .val (.int ga0), .val (.int ga1), .val (.int gla), .val (.int gb0), .val (.int gb1), .val (.int glb), .val (.int pa0), .val (.int pa1), .unset, .unset, .unset, .unset, .unset, .unset, .unset, .unset, .unset, .unset, .unset, .unset, .unset, .unset] [(.int pla)])) t → Steps p.tables e below G t := by rw [h_pla]; exact K72
  have hl_pla := own_l3 h_pla
  have K74 : ∀ t, Steps p.tables e below (T70.setTop (mkF m 241 #[.val (.int p1), .val (.int p2), .val (.int p3), .val (.int p4), .val (.int p5), .val (.int shq), .val (.int shg), .val (.int shp), .val (.int qa0), .val (.int qa1), .val (.int qla), .val (.int qb0), .val (.int qb1), .val (.int qlb), .val (.int ga0), .val (.int ga1), .val (.int gla), .val (.int gb0), .val (.int gb1), .val (.int glb), .val (.int pa0), .val (.int pa1), .val (.int pla), .unset, .unset, .unset, .unset, .unset, .unset, .unset, .unset, .unset, .unset, .unset, .unset, .unset] [(.int shp)])) t → Steps p.tables e below G t := by
    intro t k
    refine K73 t ?_
    show Steps p.tables e below (T70.setTop (mkF m 237 #[.val (.int p1), .val (.int p2), .val (.int p3), .val (.int p4), .val (.int p5), .val (.int shq), .val (.int shg), .val (.int shp), .val (.int qa0), .val (.int qa1), .val (.int qla), .val (.int qb0), .val (.int qb1), .val (.int qlb), .val (.int ga0), .val (.int ga1), .val (.int gla), .val (.int gb0), .val (.int gb1), .val (.int glb), .val (.int pa0), .val (.int pa1), .unset, .unset, .unset, .unset, .unset, .unset, .unset, .unset, .unset, .unset, .unset, .unset, .unset, .unset] [(.int pla)])) _
    refine XS.istore X70.here hx rfl (hb hby at_237) rfl (l' := #[.val (.int p1), .val (.int p2), .val (.int p3), .val (.int p4), .val (.int p5), .val (.int shq), .val (.int shg), .val (.int shp), .val (.int qa0), .val (.int qa1), .val (.int qla), .val (.int qb0), .val (.int qb1), .val (.int qlb), .val (.int ga0), .val (.int ga1), .val (.int gla), .val (.int gb0), .val (.int gb1), .val (.int glb), .val (.int pa0), .val (.int pa1), .val (.int pla), .unset, .unset, .unset, .unset, .unset, .unset, .unset, .unset, .unset, .unset, .unset, .unset, .unset]) rfl ?_
    show Steps p.tables e below (T70.setTop (mkF m 239 #[.val (.int p1), .val (.int p2), .val (.int p3), .val (.int p4), .val (.int p5), .val (.int shq), .val (.int shg), .val (.int shp), .val (.int qa0), .val (.int qa1), .val (.int qla), .val (.int qb0), .val (.int qb1), .val (.int qlb), .val (.int ga0), .val (.int ga1), .val (.int gla), .val (.int gb0), .val (.int gb1), .val (.int glb), .val (.int pa0), .val (.int pa1), .val (.int pla), .unset, .unset, .unset, .unset, .unset, .unset, .unset, .unset, .unset, .unset, .unset, .unset, .unset] [])) _
    refine XS.iload X70.here hx rfl (hb hby at_239) rfl ?_
    show Steps p.tables e below (T70.setTop (mkF m 241 #[.val (.int p1), .val (.int p2), .val (.int p3), .val (.int p4), .val (.int p5), .val (.int shq), .val (.int shg), .val (.int shp), .val (.int qa0), .val (.int qa1), .val (.int qla), .val (.int qb0), .val (.int qb1), .val (.int qlb), .val (.int ga0), .val (.int ga1), .val (.int gla), .val (.int gb0), .val (.int gb1), .val (.int glb), .val (.int pa0), .val (.int pa1), .val (.int pla), .unset, .unset, .unset, .unset, .unset, .unset, .unset, .unset, .unset, .unset, .unset, .unset, .unset] [(.int shp)])) _
    exact k
  have K76 : ∀ t, Steps p.tables e below (T70.setTop (mkF m 257 #[.val (.int p1), .val (.int p2), .val (.int p3), .val (.int p4), .val (.int p5), .val (.int shq), .val (.int shg), .val (.int shp), .val (.int qa0), .val (.int qa1), .val (.int qla), .val (.int qb0), .val (.int qb1), .val (.int qlb), .val (.int ga0), .val (.int ga1), .val (.int gla), .val (.int gb0), .val (.int gb1), .val (.int glb), .val (.int pa0), .val (.int pa1), .val (.int pla), .unset, .unset, .unset, .unset, .unset, .unset, .unset, .unset, .unset, .unset, .unset, .unset, .unset] [(.int (if shp = (0 : Int32) then (((p3.toUInt32 >>> ((16 : Int32) &&& 31).toUInt32).toInt32) &&& (255 : Int32)) else pa0))])) t → Steps p.tables e below G t := by
    intro t k
    refine K74 t ?_
    by_cases hc75 : shp = (0 : Int32)
    · show Steps p.tables e below (T70.setTop (mkF m 241 #[.val (.int p1), .val (.int p2), .val (.int p3), .val (.int p4), .val (.int p5), .val (.int shq), .val (.int shg), .val (.int shp), .val (.int qa0), .val (.int qa1), .val (.int qla), .val (.int qb0), .val (.int qb1), .val (.int qlb), .val (.int ga0), .val (.int ga1), .val (.int gla), .val (.int gb0), .val (.int gb1), .val (.int glb), .val (.int pa0), .val (.int pa1), .val (.int pla), .unset, .unset, .unset, .unset, .unset, .unset, .unset, .unset, .unset, .unset, .unset, .unset, .unset] [(.int shp)])) _
      refine XS.ifYes X70.here hx rfl (pc0 := 241) (pc' := 249) rfl (hb hby at_241) rfl ((if0 _ _).trans (teq hc75).1) (by decide) (by decide) ?_
      show Steps p.tables e below (T70.setTop (mkF m 249 #[.val (.int p1), .val (.int p2), .val (.int p3), .val (.int p4), .val (.int p5), .val (.int shq), .val (.int shg), .val (.int shp), .val (.int qa0), .val (.int qa1), .val (.int qla), .val (.int qb0), .val (.int qb1), .val (.int qlb), .val (.int ga0), .val (.int ga1), .val (.int gla), .val (.int gb0), .val (.int gb1), .val (.int glb), .val (.int pa0), .val (.int pa1), .val (.int pla), .unset, .unset, .unset, .unset, .unset, .unset, .unset, .unset, .unset, .unset, .unset, .unset, .unset] [])) _
      refine XS.iloadN X70.here hx rfl (hb hby at_249) rfl ?_
      show Steps p.tables e below (T70.setTop (mkF m 250 #[.val (.int p1), .val (.int p2), .val (.int p3), .val (.int p4), .val (.int p5), .val (.int shq), .val (.int shg), .val (.int shp), .val (.int qa0), .val (.int qa1), .val (.int qla), .val (.int qb0), .val (.int qb1), .val (.int qlb), .val (.int ga0), .val (.int ga1), .val (.int gla), .val (.int gb0), .val (.int gb1), .val (.int glb), .val (.int pa0), .val (.int pa1), .val (.int pla), .unset, .unset, .unset, .unset, .unset, .unset, .unset, .unset, .unset, .unset, .unset, .unset, .unset] [(.int p3)])) _
      refine XS.bipush X70.here hx rfl (hb hby at_250) ?_
      show Steps p.tables e below (T70.setTop (mkF m 252 #[.val (.int p1), .val (.int p2), .val (.int p3), .val (.int p4), .val (.int p5), .val (.int shq), .val (.int shg), .val (.int shp), .val (.int qa0), .val (.int qa1), .val (.int qla), .val (.int qb0), .val (.int qb1), .val (.int qlb), .val (.int ga0), .val (.int ga1), .val (.int gla), .val (.int gb0), .val (.int gb1), .val (.int glb), .val (.int pa0), .val (.int pa1), .val (.int pla), .unset, .unset, .unset, .unset, .unset, .unset, .unset, .unset, .unset, .unset, .unset, .unset, .unset] [(.int (16 : Int32)), (.int p3)])) _
      refine XS.iushr X70.here hx rfl (hb hby at_252) rfl ?_
      show Steps p.tables e below (T70.setTop (mkF m 253 #[.val (.int p1), .val (.int p2), .val (.int p3), .val (.int p4), .val (.int p5), .val (.int shq), .val (.int shg), .val (.int shp), .val (.int qa0), .val (.int qa1), .val (.int qla), .val (.int qb0), .val (.int qb1), .val (.int qlb), .val (.int ga0), .val (.int ga1), .val (.int gla), .val (.int gb0), .val (.int gb1), .val (.int glb), .val (.int pa0), .val (.int pa1), .val (.int pla), .unset, .unset, .unset, .unset, .unset, .unset, .unset, .unset, .unset, .unset, .unset, .unset, .unset] [(.int ((p3.toUInt32 >>> ((16 : Int32) &&& 31).toUInt32).toInt32))])) _
      refine XS.sipush X70.here hx rfl (hb hby at_253) ?_
      show Steps p.tables e below (T70.setTop (mkF m 256 #[.val (.int p1), .val (.int p2), .val (.int p3), .val (.int p4), .val (.int p5), .val (.int shq), .val (.int shg), .val (.int shp), .val (.int qa0), .val (.int qa1), .val (.int qla), .val (.int qb0), .val (.int qb1), .val (.int qlb), .val (.int ga0), .val (.int ga1), .val (.int gla), .val (.int gb0), .val (.int gb1), .val (.int glb), .val (.int pa0), .val (.int pa1), .val (.int pla), .unset, .unset, .unset, .unset, .unset, .unset, .unset, .unset, .unset, .unset, .unset, .unset, .unset] [(.int (255 : Int32)), (.int ((p3.toUInt32 >>> ((16 : Int32) &&& 31).toUInt32).toInt32))])) _
      refine XS.iand X70.here hx rfl (hb hby at_256) rfl ?_
      show Steps p.tables e below (T70.setTop (mkF m 257 #[.val (.int p1), .val (.int p2), .val (.int p3), .val (.int p4), .val (.int p5), .val (.int shq), .val (.int shg), .val (.int shp), .val (.int qa0), .val (.int qa1), .val (.int qla), .val (.int qb0), .val (.int qb1), .val (.int qlb), .val (.int ga0), .val (.int ga1), .val (.int gla), .val (.int gb0), .val (.int gb1), .val (.int glb), .val (.int pa0), .val (.int pa1), .val (.int pla), .unset, .unset, .unset, .unset, .unset, .unset, .unset, .unset, .unset, .unset, .unset, .unset, .unset] [(.int (((p3.toUInt32 >>> ((16 : Int32) &&& 31).toUInt32).toInt32) &&& (255 : Int32)))])) _
      simp only [if_pos hc75] at k
      exact k
    · show Steps p.tables e below (T70.setTop (mkF m 241 #[.val (.int p1), .val (.int p2), .val (.int p3), .val (.int p4), .val (.int p5), .val (.int shq), .val (.int shg), .val (.int shp), .val (.int qa0), .val (.int qa1), .val (.int qla), .val (.int qb0), .val (.int qb1), .val (.int qlb), .val (.int ga0), .val (.int ga1), .val (.int gla), .val (.int gb0), .val (.int gb1), .val (.int glb), .val (.int pa0), .val (.int pa1), .val (.int pla), .unset, .unset, .unset, .unset, .unset, .unset, .unset, .unset, .unset, .unset, .unset, .unset, .unset] [(.int shp)])) _
      refine XS.ifNo X70.here hx rfl (hb hby at_241) rfl ((if0 _ _).trans (feq hc75).1) ?_
      show Steps p.tables e below (T70.setTop (mkF m 244 #[.val (.int p1), .val (.int p2), .val (.int p3), .val (.int p4), .val (.int p5), .val (.int shq), .val (.int shg), .val (.int shp), .val (.int qa0), .val (.int qa1), .val (.int qla), .val (.int qb0), .val (.int qb1), .val (.int qlb), .val (.int ga0), .val (.int ga1), .val (.int gla), .val (.int gb0), .val (.int gb1), .val (.int glb), .val (.int pa0), .val (.int pa1), .val (.int pla), .unset, .unset, .unset, .unset, .unset, .unset, .unset, .unset, .unset, .unset, .unset, .unset, .unset] [])) _
      refine XS.iload X70.here hx rfl (hb hby at_244) rfl ?_
      show Steps p.tables e below (T70.setTop (mkF m 246 #[.val (.int p1), .val (.int p2), .val (.int p3), .val (.int p4), .val (.int p5), .val (.int shq), .val (.int shg), .val (.int shp), .val (.int qa0), .val (.int qa1), .val (.int qla), .val (.int qb0), .val (.int qb1), .val (.int qlb), .val (.int ga0), .val (.int ga1), .val (.int gla), .val (.int gb0), .val (.int gb1), .val (.int glb), .val (.int pa0), .val (.int pa1), .val (.int pla), .unset, .unset, .unset, .unset, .unset, .unset, .unset, .unset, .unset, .unset, .unset, .unset, .unset] [(.int pa0)])) _
      refine XS.goto X70.here hx rfl (pc0 := 246) (pc' := 257) rfl (hb hby at_246) (by decide) (by decide) ?_
      show Steps p.tables e below (T70.setTop (mkF m 257 #[.val (.int p1), .val (.int p2), .val (.int p3), .val (.int p4), .val (.int p5), .val (.int shq), .val (.int shg), .val (.int shp), .val (.int qa0), .val (.int qa1), .val (.int qla), .val (.int qb0), .val (.int qb1), .val (.int qlb), .val (.int ga0), .val (.int ga1), .val (.int gla), .val (.int gb0), .val (.int gb1), .val (.int glb), .val (.int pa0), .val (.int pa1), .val (.int pla), .unset, .unset, .unset, .unset, .unset, .unset, .unset, .unset, .unset, .unset, .unset, .unset, .unset] [(.int pa0)])) _
      simp only [if_neg hc75] at k
      exact k
  obtain ⟨pb0, h_pb0⟩ : ∃ z : Int32, z = (if shp = (0 : Int32) then (((p3.toUInt32 >>> ((16 : Int32) &&& 31).toUInt32).toInt32) &&& (255 : Int32)) else pa0) := ⟨_, rfl⟩
  have K77 : ∀ t, Steps p.tables e below (T70.setTop (mkF m 257 #[.val (.int p1), .val (.int p2), .val (.int p3), .val (.int p4), .val (.int p5), .val (.int shq), .val (.int shg), .val (.int shp), .val (.int qa0), .val (.int qa1), .val (.int qla), .val (.int qb0), .val (.int qb1), .val (.int qlb), .val (.int ga0), .val (.int ga1), .val (.int gla), .val (.int gb0), .val (.int gb1), .val (.int glb), .val (.int pa0), .val (.int pa1), .val (.int pla), .unset, .unset, .unset, .unset, .unset, .unset, .unset, .unset, .unset, .unset, .unset, .unset, .unset] [(.int pb0)])) t → Steps p.tables e below G t := by rw [h_pb0]; exact K76
  have hb_pb0 := own_if255 h_pb0 hb_pa0
  have K78 : ∀ t, Steps p.tables e below (T70.setTop (mkF m 261 #[.val (.int p1), .val (.int p2), .val (.int p3), .val (.int p4), .val (.int p5), .val (.int shq), .val (.int shg), .val (.int shp), .val (.int qa0), .val (.int qa1), .val (.int qla), .val (.int qb0), .val (.int qb1), .val (.int qlb), .val (.int ga0), .val (.int ga1), .val (.int gla), .val (.int gb0), .val (.int gb1), .val (.int glb), .val (.int pa0), .val (.int pa1), .val (.int pla), .val (.int pb0), .unset, .unset, .unset, .unset, .unset, .unset, .unset, .unset, .unset, .unset, .unset, .unset] [(.int shp)])) t → Steps p.tables e below G t := by
    intro t k
    refine K77 t ?_
    show Steps p.tables e below (T70.setTop (mkF m 257 #[.val (.int p1), .val (.int p2), .val (.int p3), .val (.int p4), .val (.int p5), .val (.int shq), .val (.int shg), .val (.int shp), .val (.int qa0), .val (.int qa1), .val (.int qla), .val (.int qb0), .val (.int qb1), .val (.int qlb), .val (.int ga0), .val (.int ga1), .val (.int gla), .val (.int gb0), .val (.int gb1), .val (.int glb), .val (.int pa0), .val (.int pa1), .val (.int pla), .unset, .unset, .unset, .unset, .unset, .unset, .unset, .unset, .unset, .unset, .unset, .unset, .unset] [(.int pb0)])) _
    refine XS.istore X70.here hx rfl (hb hby at_257) rfl (l' := #[.val (.int p1), .val (.int p2), .val (.int p3), .val (.int p4), .val (.int p5), .val (.int shq), .val (.int shg), .val (.int shp), .val (.int qa0), .val (.int qa1), .val (.int qla), .val (.int qb0), .val (.int qb1), .val (.int qlb), .val (.int ga0), .val (.int ga1), .val (.int gla), .val (.int gb0), .val (.int gb1), .val (.int glb), .val (.int pa0), .val (.int pa1), .val (.int pla), .val (.int pb0), .unset, .unset, .unset, .unset, .unset, .unset, .unset, .unset, .unset, .unset, .unset, .unset]) rfl ?_
    show Steps p.tables e below (T70.setTop (mkF m 259 #[.val (.int p1), .val (.int p2), .val (.int p3), .val (.int p4), .val (.int p5), .val (.int shq), .val (.int shg), .val (.int shp), .val (.int qa0), .val (.int qa1), .val (.int qla), .val (.int qb0), .val (.int qb1), .val (.int qlb), .val (.int ga0), .val (.int ga1), .val (.int gla), .val (.int gb0), .val (.int gb1), .val (.int glb), .val (.int pa0), .val (.int pa1), .val (.int pla), .val (.int pb0), .unset, .unset, .unset, .unset, .unset, .unset, .unset, .unset, .unset, .unset, .unset, .unset] [])) _
    refine XS.iload X70.here hx rfl (hb hby at_259) rfl ?_
    show Steps p.tables e below (T70.setTop (mkF m 261 #[.val (.int p1), .val (.int p2), .val (.int p3), .val (.int p4), .val (.int p5), .val (.int shq), .val (.int shg), .val (.int shp), .val (.int qa0), .val (.int qa1), .val (.int qla), .val (.int qb0), .val (.int qb1), .val (.int qlb), .val (.int ga0), .val (.int ga1), .val (.int gla), .val (.int gb0), .val (.int gb1), .val (.int glb), .val (.int pa0), .val (.int pa1), .val (.int pla), .val (.int pb0), .unset, .unset, .unset, .unset, .unset, .unset, .unset, .unset, .unset, .unset, .unset, .unset] [(.int shp)])) _
    exact k
  have K80 : ∀ t, Steps p.tables e below (T70.setTop (mkF m 277 #[.val (.int p1), .val (.int p2), .val (.int p3), .val (.int p4), .val (.int p5), .val (.int shq), .val (.int shg), .val (.int shp), .val (.int qa0), .val (.int qa1), .val (.int qla), .val (.int qb0), .val (.int qb1), .val (.int qlb), .val (.int ga0), .val (.int ga1), .val (.int gla), .val (.int gb0), .val (.int gb1), .val (.int glb), .val (.int pa0), .val (.int pa1), .val (.int pla), .val (.int pb0), .unset, .unset, .unset, .unset, .unset, .unset, .unset, .unset, .unset, .unset, .unset, .unset] [(.int (if shp = (0 : Int32) then (((p3.toUInt32 >>> ((24 : Int32) &&& 31).toUInt32).toInt32) &&& (255 : Int32)) else pa1))])) t → Steps p.tables e below G t := by
    intro t k
    refine K78 t ?_
    by_cases hc79 : shp = (0 : Int32)
    · show Steps p.tables e below (T70.setTop (mkF m 261 #[.val (.int p1), .val (.int p2), .val (.int p3), .val (.int p4), .val (.int p5), .val (.int shq), .val (.int shg), .val (.int shp), .val (.int qa0), .val (.int qa1), .val (.int qla), .val (.int qb0), .val (.int qb1), .val (.int qlb), .val (.int ga0), .val (.int ga1), .val (.int gla), .val (.int gb0), .val (.int gb1), .val (.int glb), .val (.int pa0), .val (.int pa1), .val (.int pla), .val (.int pb0), .unset, .unset, .unset, .unset, .unset, .unset, .unset, .unset, .unset, .unset, .unset, .unset] [(.int shp)])) _
      refine XS.ifYes X70.here hx rfl (pc0 := 261) (pc' := 269) rfl (hb hby at_261) rfl ((if0 _ _).trans (teq hc79).1) (by decide) (by decide) ?_
      show Steps p.tables e below (T70.setTop (mkF m 269 #[.val (.int p1), .val (.int p2), .val (.int p3), .val (.int p4), .val (.int p5), .val (.int shq), .val (.int shg), .val (.int shp), .val (.int qa0), .val (.int qa1), .val (.int qla), .val (.int qb0), .val (.int qb1), .val (.int qlb), .val (.int ga0), .val (.int ga1), .val (.int gla), .val (.int gb0), .val (.int gb1), .val (.int glb), .val (.int pa0), .val (.int pa1), .val (.int pla), .val (.int pb0), .unset, .unset, .unset, .unset, .unset, .unset, .unset, .unset, .unset, .unset, .unset, .unset] [])) _
      refine XS.iloadN X70.here hx rfl (hb hby at_269) rfl ?_
      show Steps p.tables e below (T70.setTop (mkF m 270 #[.val (.int p1), .val (.int p2), .val (.int p3), .val (.int p4), .val (.int p5), .val (.int shq), .val (.int shg), .val (.int shp), .val (.int qa0), .val (.int qa1), .val (.int qla), .val (.int qb0), .val (.int qb1), .val (.int qlb), .val (.int ga0), .val (.int ga1), .val (.int gla), .val (.int gb0), .val (.int gb1), .val (.int glb), .val (.int pa0), .val (.int pa1), .val (.int pla), .val (.int pb0), .unset, .unset, .unset, .unset, .unset, .unset, .unset, .unset, .unset, .unset, .unset, .unset] [(.int p3)])) _
      refine XS.bipush X70.here hx rfl (hb hby at_270) ?_
      show Steps p.tables e below (T70.setTop (mkF m 272 #[.val (.int p1), .val (.int p2), .val (.int p3), .val (.int p4), .val (.int p5), .val (.int shq), .val (.int shg), .val (.int shp), .val (.int qa0), .val (.int qa1), .val (.int qla), .val (.int qb0), .val (.int qb1), .val (.int qlb), .val (.int ga0), .val (.int ga1), .val (.int gla), .val (.int gb0), .val (.int gb1), .val (.int glb), .val (.int pa0), .val (.int pa1), .val (.int pla), .val (.int pb0), .unset, .unset, .unset, .unset, .unset, .unset, .unset, .unset, .unset, .unset, .unset, .unset] [(.int (24 : Int32)), (.int p3)])) _
      refine XS.iushr X70.here hx rfl (hb hby at_272) rfl ?_
      show Steps p.tables e below (T70.setTop (mkF m 273 #[.val (.int p1), .val (.int p2), .val (.int p3), .val (.int p4), .val (.int p5), .val (.int shq), .val (.int shg), .val (.int shp), .val (.int qa0), .val (.int qa1), .val (.int qla), .val (.int qb0), .val (.int qb1), .val (.int qlb), .val (.int ga0), .val (.int ga1), .val (.int gla), .val (.int gb0), .val (.int gb1), .val (.int glb), .val (.int pa0), .val (.int pa1), .val (.int pla), .val (.int pb0), .unset, .unset, .unset, .unset, .unset, .unset, .unset, .unset, .unset, .unset, .unset, .unset] [(.int ((p3.toUInt32 >>> ((24 : Int32) &&& 31).toUInt32).toInt32))])) _
      refine XS.sipush X70.here hx rfl (hb hby at_273) ?_
      show Steps p.tables e below (T70.setTop (mkF m 276 #[.val (.int p1), .val (.int p2), .val (.int p3), .val (.int p4), .val (.int p5), .val (.int shq), .val (.int shg), .val (.int shp), .val (.int qa0), .val (.int qa1), .val (.int qla), .val (.int qb0), .val (.int qb1), .val (.int qlb), .val (.int ga0), .val (.int ga1), .val (.int gla), .val (.int gb0), .val (.int gb1), .val (.int glb), .val (.int pa0), .val (.int pa1), .val (.int pla), .val (.int pb0), .unset, .unset, .unset, .unset, .unset, .unset, .unset, .unset, .unset, .unset, .unset, .unset] [(.int (255 : Int32)), (.int ((p3.toUInt32 >>> ((24 : Int32) &&& 31).toUInt32).toInt32))])) _
      refine XS.iand X70.here hx rfl (hb hby at_276) rfl ?_
      show Steps p.tables e below (T70.setTop (mkF m 277 #[.val (.int p1), .val (.int p2), .val (.int p3), .val (.int p4), .val (.int p5), .val (.int shq), .val (.int shg), .val (.int shp), .val (.int qa0), .val (.int qa1), .val (.int qla), .val (.int qb0), .val (.int qb1), .val (.int qlb), .val (.int ga0), .val (.int ga1), .val (.int gla), .val (.int gb0), .val (.int gb1), .val (.int glb), .val (.int pa0), .val (.int pa1), .val (.int pla), .val (.int pb0), .unset, .unset, .unset, .unset, .unset, .unset, .unset, .unset, .unset, .unset, .unset, .unset] [(.int (((p3.toUInt32 >>> ((24 : Int32) &&& 31).toUInt32).toInt32) &&& (255 : Int32)))])) _
      simp only [if_pos hc79] at k
      exact k
    · show Steps p.tables e below (T70.setTop (mkF m 261 #[.val (.int p1), .val (.int p2), .val (.int p3), .val (.int p4), .val (.int p5), .val (.int shq), .val (.int shg), .val (.int shp), .val (.int qa0), .val (.int qa1), .val (.int qla), .val (.int qb0), .val (.int qb1), .val (.int qlb), .val (.int ga0), .val (.int ga1), .val (.int gla), .val (.int gb0), .val (.int gb1), .val (.int glb), .val (.int pa0), .val (.int pa1), .val (.int pla), .val (.int pb0), .unset, .unset, .unset, .unset, .unset, .unset, .unset, .unset, .unset, .unset, .unset, .unset] [(.int shp)])) _
      refine XS.ifNo X70.here hx rfl (hb hby at_261) rfl ((if0 _ _).trans (feq hc79).1) ?_
      show Steps p.tables e below (T70.setTop (mkF m 264 #[.val (.int p1), .val (.int p2), .val (.int p3), .val (.int p4), .val (.int p5), .val (.int shq), .val (.int shg), .val (.int shp), .val (.int qa0), .val (.int qa1), .val (.int qla), .val (.int qb0), .val (.int qb1), .val (.int qlb), .val (.int ga0), .val (.int ga1), .val (.int gla), .val (.int gb0), .val (.int gb1), .val (.int glb), .val (.int pa0), .val (.int pa1), .val (.int pla), .val (.int pb0), .unset, .unset, .unset, .unset, .unset, .unset, .unset, .unset, .unset, .unset, .unset, .unset] [])) _
      refine XS.iload X70.here hx rfl (hb hby at_264) rfl ?_
      show Steps p.tables e below (T70.setTop (mkF m 266 #[.val (.int p1), .val (.int p2), .val (.int p3), .val (.int p4), .val (.int p5), .val (.int shq), .val (.int shg), .val (.int shp), .val (.int qa0), .val (.int qa1), .val (.int qla), .val (.int qb0), .val (.int qb1), .val (.int qlb), .val (.int ga0), .val (.int ga1), .val (.int gla), .val (.int gb0), .val (.int gb1), .val (.int glb), .val (.int pa0), .val (.int pa1), .val (.int pla), .val (.int pb0), .unset, .unset, .unset, .unset, .unset, .unset, .unset, .unset, .unset, .unset, .unset, .unset] [(.int pa1)])) _
      refine XS.goto X70.here hx rfl (pc0 := 266) (pc' := 277) rfl (hb hby at_266) (by decide) (by decide) ?_
      show Steps p.tables e below (T70.setTop (mkF m 277 #[.val (.int p1), .val (.int p2), .val (.int p3), .val (.int p4), .val (.int p5), .val (.int shq), .val (.int shg), .val (.int shp), .val (.int qa0), .val (.int qa1), .val (.int qla), .val (.int qb0), .val (.int qb1), .val (.int qlb), .val (.int ga0), .val (.int ga1), .val (.int gla), .val (.int gb0), .val (.int gb1), .val (.int glb), .val (.int pa0), .val (.int pa1), .val (.int pla), .val (.int pb0), .unset, .unset, .unset, .unset, .unset, .unset, .unset, .unset, .unset, .unset, .unset, .unset] [(.int pa1)])) _
      simp only [if_neg hc79] at k
      exact k
  obtain ⟨pb1, h_pb1⟩ : ∃ z : Int32, z = (if shp = (0 : Int32) then (((p3.toUInt32 >>> ((24 : Int32) &&& 31).toUInt32).toInt32) &&& (255 : Int32)) else pa1) := ⟨_, rfl⟩
  have K81 : ∀ t, Steps p.tables e below (T70.setTop (mkF m 277 #[.val (.int p1), .val (.int p2), .val (.int p3), .val (.int p4), .val (.int p5), .val (.int shq), .val (.int shg), .val (.int shp), .val (.int qa0), .val (.int qa1), .val (.int qla), .val (.int qb0), .val (.int qb1), .val (.int qlb), .val (.int ga0), .val (.int ga1), .val (.int gla), .val (.int gb0), .val (.int gb1), .val (.int glb), .val (.int pa0), .val (.int pa1), .val (.int pla), .val (.int pb0), .unset, .unset, .unset, .unset, .unset, .unset, .unset, .unset, .unset, .unset, .unset, .unset] [(.int pb1)])) t → Steps p.tables e below G t := by rw [h_pb1]; exact K80
  have hb_pb1 := own_if255 h_pb1 hb_pa1
  have K82 : ∀ t, Steps p.tables e below (T70.setTop (mkF m 281 #[.val (.int p1), .val (.int p2), .val (.int p3), .val (.int p4), .val (.int p5), .val (.int shq), .val (.int shg), .val (.int shp), .val (.int qa0), .val (.int qa1), .val (.int qla), .val (.int qb0), .val (.int qb1), .val (.int qlb), .val (.int ga0), .val (.int ga1), .val (.int gla), .val (.int gb0), .val (.int gb1), .val (.int glb), .val (.int pa0), .val (.int pa1), .val (.int pla), .val (.int pb0), .val (.int pb1), .unset, .unset, .unset, .unset, .unset, .unset, .unset, .unset, .unset, .unset, .unset] [(.int shp)])) t → Steps p.tables e below G t := by
    intro t k
    refine K81 t ?_
    show Steps p.tables e below (T70.setTop (mkF m 277 #[.val (.int p1), .val (.int p2), .val (.int p3), .val (.int p4), .val (.int p5), .val (.int shq), .val (.int shg), .val (.int shp), .val (.int qa0), .val (.int qa1), .val (.int qla), .val (.int qb0), .val (.int qb1), .val (.int qlb), .val (.int ga0), .val (.int ga1), .val (.int gla), .val (.int gb0), .val (.int gb1), .val (.int glb), .val (.int pa0), .val (.int pa1), .val (.int pla), .val (.int pb0), .unset, .unset, .unset, .unset, .unset, .unset, .unset, .unset, .unset, .unset, .unset, .unset] [(.int pb1)])) _
    refine XS.istore X70.here hx rfl (hb hby at_277) rfl (l' := #[.val (.int p1), .val (.int p2), .val (.int p3), .val (.int p4), .val (.int p5), .val (.int shq), .val (.int shg), .val (.int shp), .val (.int qa0), .val (.int qa1), .val (.int qla), .val (.int qb0), .val (.int qb1), .val (.int qlb), .val (.int ga0), .val (.int ga1), .val (.int gla), .val (.int gb0), .val (.int gb1), .val (.int glb), .val (.int pa0), .val (.int pa1), .val (.int pla), .val (.int pb0), .val (.int pb1), .unset, .unset, .unset, .unset, .unset, .unset, .unset, .unset, .unset, .unset, .unset]) rfl ?_
    show Steps p.tables e below (T70.setTop (mkF m 279 #[.val (.int p1), .val (.int p2), .val (.int p3), .val (.int p4), .val (.int p5), .val (.int shq), .val (.int shg), .val (.int shp), .val (.int qa0), .val (.int qa1), .val (.int qla), .val (.int qb0), .val (.int qb1), .val (.int qlb), .val (.int ga0), .val (.int ga1), .val (.int gla), .val (.int gb0), .val (.int gb1), .val (.int glb), .val (.int pa0), .val (.int pa1), .val (.int pla), .val (.int pb0), .val (.int pb1), .unset, .unset, .unset, .unset, .unset, .unset, .unset, .unset, .unset, .unset, .unset] [])) _
    refine XS.iload X70.here hx rfl (hb hby at_279) rfl ?_
    show Steps p.tables e below (T70.setTop (mkF m 281 #[.val (.int p1), .val (.int p2), .val (.int p3), .val (.int p4), .val (.int p5), .val (.int shq), .val (.int shg), .val (.int shp), .val (.int qa0), .val (.int qa1), .val (.int qla), .val (.int qb0), .val (.int qb1), .val (.int qlb), .val (.int ga0), .val (.int ga1), .val (.int gla), .val (.int gb0), .val (.int gb1), .val (.int glb), .val (.int pa0), .val (.int pa1), .val (.int pla), .val (.int pb0), .val (.int pb1), .unset, .unset, .unset, .unset, .unset, .unset, .unset, .unset, .unset, .unset, .unset] [(.int shp)])) _
    exact k
  obtain ⟨T83, L83, X83, e83, N83, K83⟩ : ∃ (T : State) (L : List Loc), Stand p l e room_1 (s.setVm s.vm) m #[(.int p1), (.int p2), (.int p3), (.int p4), (.int p5)] below meth c T L 0 0 ∧ T.heap = h0 ∧ Fr n0 L ∧ ∀ t, Steps p.tables e below (T.setTop (mkF m 296 #[.val (.int p1), .val (.int p2), .val (.int p3), .val (.int p4), .val (.int p5), .val (.int shq), .val (.int shg), .val (.int shp), .val (.int qa0), .val (.int qa1), .val (.int qla), .val (.int qb0), .val (.int qb1), .val (.int qlb), .val (.int ga0), .val (.int ga1), .val (.int gla), .val (.int gb0), .val (.int gb1), .val (.int glb), .val (.int pa0), .val (.int pa1), .val (.int pla), .val (.int pb0), .val (.int pb1), .unset, .unset, .unset, .unset, .unset, .unset, .unset, .unset, .unset, .unset, .unset] [(.int (if shp = (0 : Int32) then (((p4.toUInt32 >>> ((10 : Int32) &&& 31).toUInt32).toInt32 &&& (3 : Int32)) % (3 : Int32)) else pla))])) t → Steps p.tables e below G t := by
    by_cases hc84 : shp = (0 : Int32)
    · have K85 : ∀ t, Steps p.tables e below (T70.setTop (mkF m 293 #[.val (.int p1), .val (.int p2), .val (.int p3), .val (.int p4), .val (.int p5), .val (.int shq), .val (.int shg), .val (.int shp), .val (.int qa0), .val (.int qa1), .val (.int qla), .val (.int qb0), .val (.int qb1), .val (.int qlb), .val (.int ga0), .val (.int ga1), .val (.int gla), .val (.int gb0), .val (.int gb1), .val (.int glb), .val (.int pa0), .val (.int pa1), .val (.int pla), .val (.int pb0), .val (.int pb1), .unset, .unset, .unset, .unset, .unset, .unset, .unset, .unset, .unset, .unset, .unset] [(.int ((p4.toUInt32 >>> ((10 : Int32) &&& 31).toUInt32).toInt32))])) t → Steps p.tables e below G t := by
        intro t k
        refine K82 t ?_
        show Steps p.tables e below (T70.setTop (mkF m 281 #[.val (.int p1), .val (.int p2), .val (.int p3), .val (.int p4), .val (.int p5), .val (.int shq), .val (.int shg), .val (.int shp), .val (.int qa0), .val (.int qa1), .val (.int qla), .val (.int qb0), .val (.int qb1), .val (.int qlb), .val (.int ga0), .val (.int ga1), .val (.int gla), .val (.int gb0), .val (.int gb1), .val (.int glb), .val (.int pa0), .val (.int pa1), .val (.int pla), .val (.int pb0), .val (.int pb1), .unset, .unset, .unset, .unset, .unset, .unset, .unset, .unset, .unset, .unset, .unset] [(.int shp)])) _
        refine XS.ifYes X70.here hx rfl (pc0 := 281) (pc' := 289) rfl (hb hby at_281) rfl ((if0 _ _).trans (teq hc84).1) (by decide) (by decide) ?_
        show Steps p.tables e below (T70.setTop (mkF m 289 #[.val (.int p1), .val (.int p2), .val (.int p3), .val (.int p4), .val (.int p5), .val (.int shq), .val (.int shg), .val (.int shp), .val (.int qa0), .val (.int qa1), .val (.int qla), .val (.int qb0), .val (.int qb1), .val (.int qlb), .val (.int ga0), .val (.int ga1), .val (.int gla), .val (.int gb0), .val (.int gb1), .val (.int glb), .val (.int pa0), .val (.int pa1), .val (.int pla), .val (.int pb0), .val (.int pb1), .unset, .unset, .unset, .unset, .unset, .unset, .unset, .unset, .unset, .unset, .unset] [])) _
        refine XS.iloadN X70.here hx rfl (hb hby at_289) rfl ?_
        show Steps p.tables e below (T70.setTop (mkF m 290 #[.val (.int p1), .val (.int p2), .val (.int p3), .val (.int p4), .val (.int p5), .val (.int shq), .val (.int shg), .val (.int shp), .val (.int qa0), .val (.int qa1), .val (.int qla), .val (.int qb0), .val (.int qb1), .val (.int qlb), .val (.int ga0), .val (.int ga1), .val (.int gla), .val (.int gb0), .val (.int gb1), .val (.int glb), .val (.int pa0), .val (.int pa1), .val (.int pla), .val (.int pb0), .val (.int pb1), .unset, .unset, .unset, .unset, .unset, .unset, .unset, .unset, .unset, .unset, .unset] [(.int p4)])) _
        refine XS.bipush X70.here hx rfl (hb hby at_290) ?_
        show Steps p.tables e below (T70.setTop (mkF m 292 #[.val (.int p1), .val (.int p2), .val (.int p3), .val (.int p4), .val (.int p5), .val (.int shq), .val (.int shg), .val (.int shp), .val (.int qa0), .val (.int qa1), .val (.int qla), .val (.int qb0), .val (.int qb1), .val (.int qlb), .val (.int ga0), .val (.int ga1), .val (.int gla), .val (.int gb0), .val (.int gb1), .val (.int glb), .val (.int pa0), .val (.int pa1), .val (.int pla), .val (.int pb0), .val (.int pb1), .unset, .unset, .unset, .unset, .unset, .unset, .unset, .unset, .unset, .unset, .unset] [(.int (10 : Int32)), (.int p4)])) _
        refine XS.iushr X70.here hx rfl (hb hby at_292) rfl ?_
        show Steps p.tables e below (T70.setTop (mkF m 293 #[.val (.int p1), .val (.int p2), .val (.int p3), .val (.int p4), .val (.int p5), .val (.int shq), .val (.int shg), .val (.int shp), .val (.int qa0), .val (.int qa1), .val (.int qla), .val (.int qb0), .val (.int qb1), .val (.int qlb), .val (.int ga0), .val (.int ga1), .val (.int gla), .val (.int gb0), .val (.int gb1), .val (.int glb), .val (.int pa0), .val (.int pa1), .val (.int pla), .val (.int pb0), .val (.int pb1), .unset, .unset, .unset, .unset, .unset, .unset, .unset, .unset, .unset, .unset, .unset] [(.int ((p4.toUInt32 >>> ((10 : Int32) &&& 31).toUInt32).toInt32))])) _
        exact k
      obtain ⟨_, _, ⟨T86, L86, kk86, nn86⟩, -, X86, ⟨Lc86, hQ86, lq86, yq86, zq86⟩, st86⟩ := Jvm.LawKit.callS X70 hx (y := (⟨"com/example/conq/conq/model/GroupPartitionEqualsPinLaw", "len", "(I)I"⟩ : MethodName)) hown (mvT hZ (hw _ (List.mem_of_getElem? (i := 0) rfl))) (mvT hZ (hw _ (List.mem_of_getElem? (i := 1) rfl))) (mvT hZ (hw _ (List.mem_of_getElem? (i := 2) rfl))) (mvT hZ (hw _ (List.mem_of_getElem? (i := 3) rfl))) (by decide) (backOf (W := 0) (rm1 l Z a0 hw [] ((p4.toUInt32 >>> ((10 : Int32) &&& 31).toUInt32).toInt32) h0 n0 Z0 ) hZ (hw _ (List.mem_of_getElem? (i := 3) rfl)) (hw _ (List.mem_of_getElem? (i := 2) rfl)) (by decide) (by decide)) (g := (mkF m 293 #[.val (.int p1), .val (.int p2), .val (.int p3), .val (.int p4), .val (.int p5), .val (.int shq), .val (.int shg), .val (.int shp), .val (.int qa0), .val (.int qa1), .val (.int qla), .val (.int qb0), .val (.int qb1), .val (.int qlb), .val (.int ga0), .val (.int ga1), .val (.int gla), .val (.int gb0), .val (.int gb1), .val (.int glb), .val (.int pa0), .val (.int pa1), .val (.int pla), .val (.int pb0), .val (.int pb1), .unset, .unset, .unset, .unset, .unset, .unset, .unset, .unset, .unset, .unset, .unset] [(.int ((p4.toUInt32 >>> ((10 : Int32) &&& 31).toUInt32).toInt32))])) rfl (by rw [hml]; rfl) (argsL := [(.int ((p4.toUInt32 >>> ((10 : Int32) &&& 31).toUInt32).toInt32))]) (rest := []) (lenOf pd_8 rfl) rfl (by show 2 * 0 + _ ≤ _; exact Nat.le_of_eq rfl) (hb hby at_293) (fun _ _ => ⟨rfl, e70, (by decide : 0 + 0 ≤ _), (by decide : 0 + 0 ≤ _)⟩)
      dsimp only [Pt.U, Pt.locs, Pt.cells, Pt.slots] at X86 lq86 yq86 zq86 st86 hQ86
      subst lq86 yq86 zq86
      obtain ⟨rfl, Nq86, e86⟩ := hQ86
      have N87 := Fr.app N71 Nq86
      have K88 : ∀ t, Steps p.tables e below (T86.setTop (mkF m 296 #[.val (.int p1), .val (.int p2), .val (.int p3), .val (.int p4), .val (.int p5), .val (.int shq), .val (.int shg), .val (.int shp), .val (.int qa0), .val (.int qa1), .val (.int qla), .val (.int qb0), .val (.int qb1), .val (.int qlb), .val (.int ga0), .val (.int ga1), .val (.int gla), .val (.int gb0), .val (.int gb1), .val (.int glb), .val (.int pa0), .val (.int pa1), .val (.int pla), .val (.int pb0), .val (.int pb1), .unset, .unset, .unset, .unset, .unset, .unset, .unset, .unset, .unset, .unset, .unset] [(.int ((((p4.toUInt32 >>> ((10 : Int32) &&& 31).toUInt32).toInt32) &&& (3 : Int32)) % (3 : Int32)))])) t → Steps p.tables e below G t := fun t k => K85 t (st86 _ k)
      exact ⟨_, _, X86, e86, N87, by simp only [if_pos hc84]; exact K88⟩
    · have K89 : ∀ t, Steps p.tables e below (T70.setTop (mkF m 296 #[.val (.int p1), .val (.int p2), .val (.int p3), .val (.int p4), .val (.int p5), .val (.int shq), .val (.int shg), .val (.int shp), .val (.int qa0), .val (.int qa1), .val (.int qla), .val (.int qb0), .val (.int qb1), .val (.int qlb), .val (.int ga0), .val (.int ga1), .val (.int gla), .val (.int gb0), .val (.int gb1), .val (.int glb), .val (.int pa0), .val (.int pa1), .val (.int pla), .val (.int pb0), .val (.int pb1), .unset, .unset, .unset, .unset, .unset, .unset, .unset, .unset, .unset, .unset, .unset] [(.int pla)])) t → Steps p.tables e below G t := by
        intro t k
        refine K82 t ?_
        show Steps p.tables e below (T70.setTop (mkF m 281 #[.val (.int p1), .val (.int p2), .val (.int p3), .val (.int p4), .val (.int p5), .val (.int shq), .val (.int shg), .val (.int shp), .val (.int qa0), .val (.int qa1), .val (.int qla), .val (.int qb0), .val (.int qb1), .val (.int qlb), .val (.int ga0), .val (.int ga1), .val (.int gla), .val (.int gb0), .val (.int gb1), .val (.int glb), .val (.int pa0), .val (.int pa1), .val (.int pla), .val (.int pb0), .val (.int pb1), .unset, .unset, .unset, .unset, .unset, .unset, .unset, .unset, .unset, .unset, .unset] [(.int shp)])) _
        refine XS.ifNo X70.here hx rfl (hb hby at_281) rfl ((if0 _ _).trans (feq hc84).1) ?_
        show Steps p.tables e below (T70.setTop (mkF m 284 #[.val (.int p1), .val (.int p2), .val (.int p3), .val (.int p4), .val (.int p5), .val (.int shq), .val (.int shg), .val (.int shp), .val (.int qa0), .val (.int qa1), .val (.int qla), .val (.int qb0), .val (.int qb1), .val (.int qlb), .val (.int ga0), .val (.int ga1), .val (.int gla), .val (.int gb0), .val (.int gb1), .val (.int glb), .val (.int pa0), .val (.int pa1), .val (.int pla), .val (.int pb0), .val (.int pb1), .unset, .unset, .unset, .unset, .unset, .unset, .unset, .unset, .unset, .unset, .unset] [])) _
        refine XS.iload X70.here hx rfl (hb hby at_284) rfl ?_
        show Steps p.tables e below (T70.setTop (mkF m 286 #[.val (.int p1), .val (.int p2), .val (.int p3), .val (.int p4), .val (.int p5), .val (.int shq), .val (.int shg), .val (.int shp), .val (.int qa0), .val (.int qa1), .val (.int qla), .val (.int qb0), .val (.int qb1), .val (.int qlb), .val (.int ga0), .val (.int ga1), .val (.int gla), .val (.int gb0), .val (.int gb1), .val (.int glb), .val (.int pa0), .val (.int pa1), .val (.int pla), .val (.int pb0), .val (.int pb1), .unset, .unset, .unset, .unset, .unset, .unset, .unset, .unset, .unset, .unset, .unset] [(.int pla)])) _
        refine XS.goto X70.here hx rfl (pc0 := 286) (pc' := 296) rfl (hb hby at_286) (by decide) (by decide) ?_
        show Steps p.tables e below (T70.setTop (mkF m 296 #[.val (.int p1), .val (.int p2), .val (.int p3), .val (.int p4), .val (.int p5), .val (.int shq), .val (.int shg), .val (.int shp), .val (.int qa0), .val (.int qa1), .val (.int qla), .val (.int qb0), .val (.int qb1), .val (.int qlb), .val (.int ga0), .val (.int ga1), .val (.int gla), .val (.int gb0), .val (.int gb1), .val (.int glb), .val (.int pa0), .val (.int pa1), .val (.int pla), .val (.int pb0), .val (.int pb1), .unset, .unset, .unset, .unset, .unset, .unset, .unset, .unset, .unset, .unset, .unset] [(.int pla)])) _
        exact k
      exact ⟨_, _, X70, e70, N71, by simp only [if_neg hc84]; exact K89⟩
  obtain ⟨plb, h_plb⟩ : ∃ z : Int32, z = (if shp = (0 : Int32) then (((p4.toUInt32 >>> ((10 : Int32) &&& 31).toUInt32).toInt32 &&& (3 : Int32)) % (3 : Int32)) else pla) := ⟨_, rfl⟩
  have K90 : ∀ t, Steps p.tables e below (T83.setTop (mkF m 296 #[.val (.int p1), .val (.int p2), .val (.int p3), .val (.int p4), .val (.int p5), .val (.int shq), .val (.int shg), .val (.int shp), .val (.int qa0), .val (.int qa1), .val (.int qla), .val (.int qb0), .val (.int qb1), .val (.int qlb), .val (.int ga0), .val (.int ga1), .val (.int gla), .val (.int gb0), .val (.int gb1), .val (.int glb), .val (.int pa0), .val (.int pa1), .val (.int pla), .val (.int pb0), .val (.int pb1), .unset, .unset, .unset, .unset, .unset, .unset, .unset, .unset, .unset, .unset, .unset] [(.int plb)])) t → Steps p.tables e below G t := by rw [h_plb]; exact K83
  have hl_plb := own_ifl3 h_plb hl_pla
  have K91 : ∀ t, Steps p.tables e below (T83.setTop (mkF m 304 #[.val (.int p1), .val (.int p2), .val (.int p3), .val (.int p4), .val (.int p5), .val (.int shq), .val (.int shg), .val (.int shp), .val (.int qa0), .val (.int qa1), .val (.int qla), .val (.int qb0), .val (.int qb1), .val (.int qlb), .val (.int ga0), .val (.int ga1), .val (.int gla), .val (.int gb0), .val (.int gb1), .val (.int glb), .val (.int pa0), .val (.int pa1), .val (.int pla), .val (.int pb0), .val (.int pb1), .val (.int plb), .unset, .unset, .unset, .unset, .unset, .unset, .unset, .unset, .unset, .unset] [(.int qla), (.int qa1), (.int qa0)])) t → Steps p.tables e below G t := by
    intro t k
    refine K90 t ?_
    show Steps p.tables e below (T83.setTop (mkF m 296 #[.val (.int p1), .val (.int p2), .val (.int p3), .val (.int p4), .val (.int p5), .val (.int shq), .val (.int shg), .val (.int shp), .val (.int qa0), .val (.int qa1), .val (.int qla), .val (.int qb0), .val (.int qb1), .val (.int qlb), .val (.int ga0), .val (.int ga1), .val (.int gla), .val (.int gb0), .val (.int gb1), .val (.int glb), .val (.int pa0), .val (.int pa1), .val (.int pla), .val (.int pb0), .val (.int pb1), .unset, .unset, .unset, .unset, .unset, .unset, .unset, .unset, .unset, .unset, .unset] [(.int plb)])) _
    refine XS.istore X83.here hx rfl (hb hby at_296) rfl (l' := #[.val (.int p1), .val (.int p2), .val (.int p3), .val (.int p4), .val (.int p5), .val (.int shq), .val (.int shg), .val (.int shp), .val (.int qa0), .val (.int qa1), .val (.int qla), .val (.int qb0), .val (.int qb1), .val (.int qlb), .val (.int ga0), .val (.int ga1), .val (.int gla), .val (.int gb0), .val (.int gb1), .val (.int glb), .val (.int pa0), .val (.int pa1), .val (.int pla), .val (.int pb0), .val (.int pb1), .val (.int plb), .unset, .unset, .unset, .unset, .unset, .unset, .unset, .unset, .unset, .unset]) rfl ?_
    show Steps p.tables e below (T83.setTop (mkF m 298 #[.val (.int p1), .val (.int p2), .val (.int p3), .val (.int p4), .val (.int p5), .val (.int shq), .val (.int shg), .val (.int shp), .val (.int qa0), .val (.int qa1), .val (.int qla), .val (.int qb0), .val (.int qb1), .val (.int qlb), .val (.int ga0), .val (.int ga1), .val (.int gla), .val (.int gb0), .val (.int gb1), .val (.int glb), .val (.int pa0), .val (.int pa1), .val (.int pla), .val (.int pb0), .val (.int pb1), .val (.int plb), .unset, .unset, .unset, .unset, .unset, .unset, .unset, .unset, .unset, .unset] [])) _
    refine XS.iload X83.here hx rfl (hb hby at_298) rfl ?_
    show Steps p.tables e below (T83.setTop (mkF m 300 #[.val (.int p1), .val (.int p2), .val (.int p3), .val (.int p4), .val (.int p5), .val (.int shq), .val (.int shg), .val (.int shp), .val (.int qa0), .val (.int qa1), .val (.int qla), .val (.int qb0), .val (.int qb1), .val (.int qlb), .val (.int ga0), .val (.int ga1), .val (.int gla), .val (.int gb0), .val (.int gb1), .val (.int glb), .val (.int pa0), .val (.int pa1), .val (.int pla), .val (.int pb0), .val (.int pb1), .val (.int plb), .unset, .unset, .unset, .unset, .unset, .unset, .unset, .unset, .unset, .unset] [(.int qa0)])) _
    refine XS.iload X83.here hx rfl (hb hby at_300) rfl ?_
    show Steps p.tables e below (T83.setTop (mkF m 302 #[.val (.int p1), .val (.int p2), .val (.int p3), .val (.int p4), .val (.int p5), .val (.int shq), .val (.int shg), .val (.int shp), .val (.int qa0), .val (.int qa1), .val (.int qla), .val (.int qb0), .val (.int qb1), .val (.int qlb), .val (.int ga0), .val (.int ga1), .val (.int gla), .val (.int gb0), .val (.int gb1), .val (.int glb), .val (.int pa0), .val (.int pa1), .val (.int pla), .val (.int pb0), .val (.int pb1), .val (.int plb), .unset, .unset, .unset, .unset, .unset, .unset, .unset, .unset, .unset, .unset] [(.int qa1), (.int qa0)])) _
    refine XS.iload X83.here hx rfl (hb hby at_302) rfl ?_
    show Steps p.tables e below (T83.setTop (mkF m 304 #[.val (.int p1), .val (.int p2), .val (.int p3), .val (.int p4), .val (.int p5), .val (.int shq), .val (.int shg), .val (.int shp), .val (.int qa0), .val (.int qa1), .val (.int qla), .val (.int qb0), .val (.int qb1), .val (.int qlb), .val (.int ga0), .val (.int ga1), .val (.int gla), .val (.int gb0), .val (.int gb1), .val (.int glb), .val (.int pa0), .val (.int pa1), .val (.int pla), .val (.int pb0), .val (.int pb1), .val (.int plb), .unset, .unset, .unset, .unset, .unset, .unset, .unset, .unset, .unset, .unset] [(.int qla), (.int qa1), (.int qa0)])) _
    exact k
  obtain ⟨_, _, ⟨T92, L92, kk92, nn92⟩, -, Xq92, hSq92, gq92, ⟨Lc92, hQ92, lq92, yq92, zq92, CHq92⟩, st92⟩ := callSS X83 hx (y := (⟨"com/example/conq/conq/model/GroupPartitionEqualsPinLaw", "mk", "(III)Ljava/lang/String;"⟩ : MethodName)) hown (mvT hZ (hw _ (List.mem_of_getElem? (i := 4) rfl))) (mvT hZ (hw _ (List.mem_of_getElem? (i := 5) rfl))) (mvT hZ (hw _ (List.mem_of_getElem? (i := 2) rfl))) (mvT hZ (hw _ (List.mem_of_getElem? (i := 6) rfl))) (by decide) (backOfSH (s := s) (vm0 := s.vm) (W := 0) (rm2 l Z a0 hw [] qa0 qa1 qla cs h0 n0 Z0 hEL SC hcs O0 (own_i2c hb_qa0).2 (own_i2c hb_qa1).2) hZ (hw _ (List.mem_of_getElem? (i := 6) rfl)) (hw _ (List.mem_of_getElem? (i := 2) rfl)) (by decide) (by decide) hEL CH0.1) (g := (mkF m 304 #[.val (.int p1), .val (.int p2), .val (.int p3), .val (.int p4), .val (.int p5), .val (.int shq), .val (.int shg), .val (.int shp), .val (.int qa0), .val (.int qa1), .val (.int qla), .val (.int qb0), .val (.int qb1), .val (.int qlb), .val (.int ga0), .val (.int ga1), .val (.int gla), .val (.int gb0), .val (.int gb1), .val (.int glb), .val (.int pa0), .val (.int pa1), .val (.int pla), .val (.int pb0), .val (.int pb1), .val (.int plb), .unset, .unset, .unset, .unset, .unset, .unset, .unset, .unset, .unset, .unset] [(.int qla), (.int qa1), (.int qa0)])) rfl (by rw [hml]; rfl) (argsL := [(.int qa0), (.int qa1), (.int qla)]) (rest := []) (lenOf pd_9 rfl) rfl (by show 2 * 0 + _ ≤ _; exact Nat.le_of_eq rfl) (hb hby at_304) (fun _ _ => ⟨rfl, e83, (by decide : 0 + 6 ≤ _), (by decide : 0 + 12 ≤ _)⟩)
  dsimp only [Pt.U, Pt.locs, Pt.cells, Pt.slots] at Xq92 hSq92 gq92 lq92 yq92 zq92 st92 hQ92 CHq92
  subst lq92 yq92 zq92
  obtain ⟨X92, hS92, hZ, hown⟩ := rebS hS0 (by rw [e83]; exact kS0) Xq92 hSq92 gq92 hZ hown
  have CH92 := CH0.trans CHq92
  have kS93 : T92.heap.size ≤ T92.heap.size := Nat.le_refl _
  obtain ⟨sr92, sb92, sk92, sz92, sv92, rfl, Nq92, K92, szs92, SS92, fm92⟩ := hQ92
  rw [(own_i2c hb_qa0).1, (own_i2c hb_qa1).1] at fm92
  have N94 := Fr.app N83 Nq92
  have f95 := O0.keep K92 all0
  have Z96 : n0 ≤ T92.heap.size := Nat.le_trans Z0 K92.1
  have KP97 : Keep h0 T92.heap [] := KP0.trans K92 all0
  obtain ⟨Es92, Fv92, Fc92, Va92⟩ := SS92
  have K98 : ∀ t, Steps p.tables e below (T92.setTop (mkF m 307 #[.val (.int p1), .val (.int p2), .val (.int p3), .val (.int p4), .val (.int p5), .val (.int shq), .val (.int shg), .val (.int shp), .val (.int qa0), .val (.int qa1), .val (.int qla), .val (.int qb0), .val (.int qb1), .val (.int qlb), .val (.int ga0), .val (.int ga1), .val (.int gla), .val (.int gb0), .val (.int gb1), .val (.int glb), .val (.int pa0), .val (.int pa1), .val (.int pla), .val (.int pb0), .val (.int pb1), .val (.int plb), .unset, .unset, .unset, .unset, .unset, .unset, .unset, .unset, .unset, .unset] [(.ref sr92)])) t → Steps p.tables e below G t := fun t k => K91 t (st92.trans k)
  have K99 : ∀ t, Steps p.tables e below (T92.setTop (mkF m 315 #[.val (.int p1), .val (.int p2), .val (.int p3), .val (.int p4), .val (.int p5), .val (.int shq), .val (.int shg), .val (.int shp), .val (.int qa0), .val (.int qa1), .val (.int qla), .val (.int qb0), .val (.int qb1), .val (.int qlb), .val (.int ga0), .val (.int ga1), .val (.int gla), .val (.int gb0), .val (.int gb1), .val (.int glb), .val (.int pa0), .val (.int pa1), .val (.int pla), .val (.int pb0), .val (.int pb1), .val (.int plb), .val (.ref sr92), .unset, .unset, .unset, .unset, .unset, .unset, .unset, .unset, .unset] [(.int gla), (.int ga1), (.int ga0)])) t → Steps p.tables e below G t := by
    intro t k
    refine K98 t ?_
    show Steps p.tables e below (T92.setTop (mkF m 307 #[.val (.int p1), .val (.int p2), .val (.int p3), .val (.int p4), .val (.int p5), .val (.int shq), .val (.int shg), .val (.int shp), .val (.int qa0), .val (.int qa1), .val (.int qla), .val (.int qb0), .val (.int qb1), .val (.int qlb), .val (.int ga0), .val (.int ga1), .val (.int gla), .val (.int gb0), .val (.int gb1), .val (.int glb), .val (.int pa0), .val (.int pa1), .val (.int pla), .val (.int pb0), .val (.int pb1), .val (.int plb), .unset, .unset, .unset, .unset, .unset, .unset, .unset, .unset, .unset, .unset] [(.ref sr92)])) _
    refine XS.astore X92.here hx rfl (hb hby at_307) rfl rfl (l' := #[.val (.int p1), .val (.int p2), .val (.int p3), .val (.int p4), .val (.int p5), .val (.int shq), .val (.int shg), .val (.int shp), .val (.int qa0), .val (.int qa1), .val (.int qla), .val (.int qb0), .val (.int qb1), .val (.int qlb), .val (.int ga0), .val (.int ga1), .val (.int gla), .val (.int gb0), .val (.int gb1), .val (.int glb), .val (.int pa0), .val (.int pa1), .val (.int pla), .val (.int pb0), .val (.int pb1), .val (.int plb), .val (.ref sr92), .unset, .unset, .unset, .unset, .unset, .unset, .unset, .unset, .unset]) rfl ?_
    show Steps p.tables e below (T92.setTop (mkF m 309 #[.val (.int p1), .val (.int p2), .val (.int p3), .val (.int p4), .val (.int p5), .val (.int shq), .val (.int shg), .val (.int shp), .val (.int qa0), .val (.int qa1), .val (.int qla), .val (.int qb0), .val (.int qb1), .val (.int qlb), .val (.int ga0), .val (.int ga1), .val (.int gla), .val (.int gb0), .val (.int gb1), .val (.int glb), .val (.int pa0), .val (.int pa1), .val (.int pla), .val (.int pb0), .val (.int pb1), .val (.int plb), .val (.ref sr92), .unset, .unset, .unset, .unset, .unset, .unset, .unset, .unset, .unset] [])) _
    refine XS.iload X92.here hx rfl (hb hby at_309) rfl ?_
    show Steps p.tables e below (T92.setTop (mkF m 311 #[.val (.int p1), .val (.int p2), .val (.int p3), .val (.int p4), .val (.int p5), .val (.int shq), .val (.int shg), .val (.int shp), .val (.int qa0), .val (.int qa1), .val (.int qla), .val (.int qb0), .val (.int qb1), .val (.int qlb), .val (.int ga0), .val (.int ga1), .val (.int gla), .val (.int gb0), .val (.int gb1), .val (.int glb), .val (.int pa0), .val (.int pa1), .val (.int pla), .val (.int pb0), .val (.int pb1), .val (.int plb), .val (.ref sr92), .unset, .unset, .unset, .unset, .unset, .unset, .unset, .unset, .unset] [(.int ga0)])) _
    refine XS.iload X92.here hx rfl (hb hby at_311) rfl ?_
    show Steps p.tables e below (T92.setTop (mkF m 313 #[.val (.int p1), .val (.int p2), .val (.int p3), .val (.int p4), .val (.int p5), .val (.int shq), .val (.int shg), .val (.int shp), .val (.int qa0), .val (.int qa1), .val (.int qla), .val (.int qb0), .val (.int qb1), .val (.int qlb), .val (.int ga0), .val (.int ga1), .val (.int gla), .val (.int gb0), .val (.int gb1), .val (.int glb), .val (.int pa0), .val (.int pa1), .val (.int pla), .val (.int pb0), .val (.int pb1), .val (.int plb), .val (.ref sr92), .unset, .unset, .unset, .unset, .unset, .unset, .unset, .unset, .unset] [(.int ga1), (.int ga0)])) _
    refine XS.iload X92.here hx rfl (hb hby at_313) rfl ?_
    show Steps p.tables e below (T92.setTop (mkF m 315 #[.val (.int p1), .val (.int p2), .val (.int p3), .val (.int p4), .val (.int p5), .val (.int shq), .val (.int shg), .val (.int shp), .val (.int qa0), .val (.int qa1), .val (.int qla), .val (.int qb0), .val (.int qb1), .val (.int qlb), .val (.int ga0), .val (.int ga1), .val (.int gla), .val (.int gb0), .val (.int gb1), .val (.int glb), .val (.int pa0), .val (.int pa1), .val (.int pla), .val (.int pb0), .val (.int pb1), .val (.int plb), .val (.ref sr92), .unset, .unset, .unset, .unset, .unset, .unset, .unset, .unset, .unset] [(.int gla), (.int ga1), (.int ga0)])) _
    exact k
  obtain ⟨_, _, ⟨T100, L100, kk100, nn100⟩, -, Xq100, hSq100, gq100, ⟨Lc100, hQ100, lq100, yq100, zq100, CHq100⟩, st100⟩ := callSS X92 hx (y := (⟨"com/example/conq/conq/model/GroupPartitionEqualsPinLaw", "mk", "(III)Ljava/lang/String;"⟩ : MethodName)) hown (mvT hZ (hw _ (List.mem_of_getElem? (i := 4) rfl))) (mvT hZ (hw _ (List.mem_of_getElem? (i := 5) rfl))) (mvT hZ (hw _ (List.mem_of_getElem? (i := 2) rfl))) (mvT hZ (hw _ (List.mem_of_getElem? (i := 6) rfl))) (by decide) (backOfSH (s := s) (vm0 := T92.vm) (W := 0) (rm2 l Z a0 hw [] ga0 ga1 gla cs T92.heap n0 Z96 hEL SC hcs f95 (own_i2c hb_ga0).2 (own_i2c hb_ga1).2) hZ (hw _ (List.mem_of_getElem? (i := 6) rfl)) (hw _ (List.mem_of_getElem? (i := 2) rfl)) (by decide) (by decide) hEL CH92.1) (g := (mkF m 315 #[.val (.int p1), .val (.int p2), .val (.int p3), .val (.int p4), .val (.int p5), .val (.int shq), .val (.int shg), .val (.int shp), .val (.int qa0), .val (.int qa1), .val (.int qla), .val (.int qb0), .val (.int qb1), .val (.int qlb), .val (.int ga0), .val (.int ga1), .val (.int gla), .val (.int gb0), .val (.int gb1), .val (.int glb), .val (.int pa0), .val (.int pa1), .val (.int pla), .val (.int pb0), .val (.int pb1), .val (.int plb), .val (.ref sr92), .unset, .unset, .unset, .unset, .unset, .unset, .unset, .unset, .unset] [(.int gla), (.int ga1), (.int ga0)])) rfl (by rw [hml]; rfl) (argsL := [(.int ga0), (.int ga1), (.int gla)]) (rest := []) (lenOf pd_9 rfl) rfl (by show 2 * 0 + _ ≤ _; exact Nat.le_of_eq rfl) (hb hby at_315) (fun _ _ => ⟨rfl, rfl, (by decide : 6 + 6 ≤ _), (by decide : 12 + 12 ≤ _)⟩)
  dsimp only [Pt.U, Pt.locs, Pt.cells, Pt.slots] at Xq100 hSq100 gq100 lq100 yq100 zq100 st100 hQ100 CHq100
  subst lq100 yq100 zq100
  obtain ⟨X100, hS100, hZ, hown⟩ := rebS hS92 kS93 Xq100 hSq100 gq100 hZ hown
  have CH100 := CH92.trans CHq100
  have kS101 : T100.heap.size ≤ T100.heap.size := Nat.le_refl _
  obtain ⟨sr100, sb100, sk100, sz100, sv100, rfl, Nq100, K100, szs100, SS100, fm100⟩ := hQ100
  rw [(own_i2c hb_ga0).1, (own_i2c hb_ga1).1] at fm100
  have N102 := Fr.app N94 Nq100
  have ne_sr92_sr100 : sr92 ≠ sr100 := Nat.ne_of_lt (Nat.lt_of_lt_of_le Es92.lt szs100)
  have ne_sb92_sr100 : sb92 ≠ sr100 := Nat.ne_of_lt (Nat.lt_of_lt_of_le Va92.lt szs100)
  have f103 := f95.keep K100 all0
  have f104 := Es92.keep K100
  have f105 := Fv92.keep K100 nin0
  have f106 := Fc92.keep K100 nin0
  have f107 := Va92.keep K100 nin0
  have Z108 : n0 ≤ T100.heap.size := Nat.le_trans Z96 K100.1
  have KP109 : Keep h0 T100.heap [] := KP97.trans K100 all0
  obtain ⟨Es100, Fv100, Fc100, Va100⟩ := SS100
  have K110 : ∀ t, Steps p.tables e below (T100.setTop (mkF m 318 #[.val (.int p1), .val (.int p2), .val (.int p3), .val (.int p4), .val (.int p5), .val (.int shq), .val (.int shg), .val (.int shp), .val (.int qa0), .val (.int qa1), .val (.int qla), .val (.int qb0), .val (.int qb1), .val (.int qlb), .val (.int ga0), .val (.int ga1), .val (.int gla), .val (.int gb0), .val (.int gb1), .val (.int glb), .val (.int pa0), .val (.int pa1), .val (.int pla), .val (.int pb0), .val (.int pb1), .val (.int plb), .val (.ref sr92), .unset, .unset, .unset, .unset, .unset, .unset, .unset, .unset, .unset] [(.ref sr100)])) t → Steps p.tables e below G t := fun t k => K99 t (st100.trans k)
  have K111 : ∀ t, Steps p.tables e below (T100.setTop (mkF m 326 #[.val (.int p1), .val (.int p2), .val (.int p3), .val (.int p4), .val (.int p5), .val (.int shq), .val (.int shg), .val (.int shp), .val (.int qa0), .val (.int qa1), .val (.int qla), .val (.int qb0), .val (.int qb1), .val (.int qlb), .val (.int ga0), .val (.int ga1), .val (.int gla), .val (.int gb0), .val (.int gb1), .val (.int glb), .val (.int pa0), .val (.int pa1), .val (.int pla), .val (.int pb0), .val (.int pb1), .val (.int plb), .val (.ref sr92), .val (.ref sr100), .unset, .unset, .unset, .unset, .unset, .unset, .unset, .unset] [(.int pla), (.int pa1), (.int pa0)])) t → Steps p.tables e below G t := by
    intro t k
    refine K110 t ?_
    show Steps p.tables e below (T100.setTop (mkF m 318 #[.val (.int p1), .val (.int p2), .val (.int p3), .val (.int p4), .val (.int p5), .val (.int shq), .val (.int shg), .val (.int shp), .val (.int qa0), .val (.int qa1), .val (.int qla), .val (.int qb0), .val (.int qb1), .val (.int qlb), .val (.int ga0), .val (.int ga1), .val (.int gla), .val (.int gb0), .val (.int gb1), .val (.int glb), .val (.int pa0), .val (.int pa1), .val (.int pla), .val (.int pb0), .val (.int pb1), .val (.int plb), .val (.ref sr92), .unset, .unset, .unset, .unset, .unset, .unset, .unset, .unset, .unset] [(.ref sr100)])) _
    refine XS.astore X100.here hx rfl (hb hby at_318) rfl rfl (l' := #[.val (.int p1), .val (.int p2), .val (.int p3), .val (.int p4), .val (.int p5), .val (.int shq), .val (.int shg), .val (.int shp), .val (.int qa0), .val (.int qa1), .val (.int qla), .val (.int qb0), .val (.int qb1), .val (.int qlb), .val (.int ga0), .val (.int ga1), .val (.int gla), .val (.int gb0), .val (.int gb1), .val (.int glb), .val (.int pa0), .val (.int pa1), .val (.int pla), .val (.int pb0), .val (.int pb1), .val (.int plb), .val (.ref sr92), .val (.ref sr100), .unset, .unset, .unset, .unset, .unset, .unset, .unset, .unset]) rfl ?_
    show Steps p.tables e below (T100.setTop (mkF m 320 #[.val (.int p1), .val (.int p2), .val (.int p3), .val (.int p4), .val (.int p5), .val (.int shq), .val (.int shg), .val (.int shp), .val (.int qa0), .val (.int qa1), .val (.int qla), .val (.int qb0), .val (.int qb1), .val (.int qlb), .val (.int ga0), .val (.int ga1), .val (.int gla), .val (.int gb0), .val (.int gb1), .val (.int glb), .val (.int pa0), .val (.int pa1), .val (.int pla), .val (.int pb0), .val (.int pb1), .val (.int plb), .val (.ref sr92), .val (.ref sr100), .unset, .unset, .unset, .unset, .unset, .unset, .unset, .unset] [])) _
    refine XS.iload X100.here hx rfl (hb hby at_320) rfl ?_
    show Steps p.tables e below (T100.setTop (mkF m 322 #[.val (.int p1), .val (.int p2), .val (.int p3), .val (.int p4), .val (.int p5), .val (.int shq), .val (.int shg), .val (.int shp), .val (.int qa0), .val (.int qa1), .val (.int qla), .val (.int qb0), .val (.int qb1), .val (.int qlb), .val (.int ga0), .val (.int ga1), .val (.int gla), .val (.int gb0), .val (.int gb1), .val (.int glb), .val (.int pa0), .val (.int pa1), .val (.int pla), .val (.int pb0), .val (.int pb1), .val (.int plb), .val (.ref sr92), .val (.ref sr100), .unset, .unset, .unset, .unset, .unset, .unset, .unset, .unset] [(.int pa0)])) _
    refine XS.iload X100.here hx rfl (hb hby at_322) rfl ?_
    show Steps p.tables e below (T100.setTop (mkF m 324 #[.val (.int p1), .val (.int p2), .val (.int p3), .val (.int p4), .val (.int p5), .val (.int shq), .val (.int shg), .val (.int shp), .val (.int qa0), .val (.int qa1), .val (.int qla), .val (.int qb0), .val (.int qb1), .val (.int qlb), .val (.int ga0), .val (.int ga1), .val (.int gla), .val (.int gb0), .val (.int gb1), .val (.int glb), .val (.int pa0), .val (.int pa1), .val (.int pla), .val (.int pb0), .val (.int pb1), .val (.int plb), .val (.ref sr92), .val (.ref sr100), .unset, .unset, .unset, .unset, .unset, .unset, .unset, .unset] [(.int pa1), (.int pa0)])) _
    refine XS.iload X100.here hx rfl (hb hby at_324) rfl ?_
    show Steps p.tables e below (T100.setTop (mkF m 326 #[.val (.int p1), .val (.int p2), .val (.int p3), .val (.int p4), .val (.int p5), .val (.int shq), .val (.int shg), .val (.int shp), .val (.int qa0), .val (.int qa1), .val (.int qla), .val (.int qb0), .val (.int qb1), .val (.int qlb), .val (.int ga0), .val (.int ga1), .val (.int gla), .val (.int gb0), .val (.int gb1), .val (.int glb), .val (.int pa0), .val (.int pa1), .val (.int pla), .val (.int pb0), .val (.int pb1), .val (.int plb), .val (.ref sr92), .val (.ref sr100), .unset, .unset, .unset, .unset, .unset, .unset, .unset, .unset] [(.int pla), (.int pa1), (.int pa0)])) _
    exact k
  obtain ⟨_, _, ⟨T112, L112, kk112, nn112⟩, -, Xq112, hSq112, gq112, ⟨Lc112, hQ112, lq112, yq112, zq112, CHq112⟩, st112⟩ := callSS X100 hx (y := (⟨"com/example/conq/conq/model/GroupPartitionEqualsPinLaw", "mk", "(III)Ljava/lang/String;"⟩ : MethodName)) hown (mvT hZ (hw _ (List.mem_of_getElem? (i := 4) rfl))) (mvT hZ (hw _ (List.mem_of_getElem? (i := 5) rfl))) (mvT hZ (hw _ (List.mem_of_getElem? (i := 2) rfl))) (mvT hZ (hw _ (List.mem_of_getElem? (i := 6) rfl))) (by decide) (backOfSH (s := s) (vm0 := T100.vm) (W := 0) (rm2 l Z a0 hw [] pa0 pa1 pla cs T100.heap n0 Z108 hEL SC hcs f103 (own_i2c hb_pa0).2 (own_i2c hb_pa1).2) hZ (hw _ (List.mem_of_getElem? (i := 6) rfl)) (hw _ (List.mem_of_getElem? (i := 2) rfl)) (by decide) (by decide) hEL CH100.1) (g := (mkF m 326 #[.val (.int p1), .val (.int p2), .val (.int p3), .val (.int p4), .val (.int p5), .val (.int shq), .val (.int shg), .val (.int shp), .val (.int qa0), .val (.int qa1), .val (.int qla), .val (.int qb0), .val (.int qb1), .val (.int qlb), .val (.int ga0), .val (.int ga1), .val (.int gla), .val (.int gb0), .val (.int gb1), .val (.int glb), .val (.int pa0), .val (.int pa1), .val (.int pla), .val (.int pb0), .val (.int pb1), .val (.int plb), .val (.ref sr92), .val (.ref sr100), .unset, .unset, .unset, .unset, .unset, .unset, .unset, .unset] [(.int pla), (.int pa1), (.int pa0)])) rfl (by rw [hml]; rfl) (argsL := [(.int pa0), (.int pa1), (.int pla)]) (rest := []) (lenOf pd_9 rfl) rfl (by show 2 * 0 + _ ≤ _; exact Nat.le_of_eq rfl) (hb hby at_326) (fun _ _ => ⟨rfl, rfl, (by decide : 12 + 6 ≤ _), (by decide : 24 + 12 ≤ _)⟩)
  dsimp only [Pt.U, Pt.locs, Pt.cells, Pt.slots] at Xq112 hSq112 gq112 lq112 yq112 zq112 st112 hQ112 CHq112
  subst lq112 yq112 zq112
  obtain ⟨X112, hS112, hZ, hown⟩ := rebS hS100 kS101 Xq112 hSq112 gq112 hZ hown
  have CH112 := CH100.trans CHq112
  have kS113 : T112.heap.size ≤ T112.heap.size := Nat.le_refl _
  obtain ⟨sr112, sb112, sk112, sz112, sv112, rfl, Nq112, K112, szs112, SS112, fm112⟩ := hQ112
  rw [(own_i2c hb_pa0).1, (own_i2c hb_pa1).1] at fm112
  have N114 := Fr.app N102 Nq112
  have ne_sr92_sr112 : sr92 ≠ sr112 := Nat.ne_of_lt (Nat.lt_of_lt_of_le f104.lt szs112)
  have ne_sb92_sr112 : sb92 ≠ sr112 := Nat.ne_of_lt (Nat.lt_of_lt_of_le f107.lt szs112)
  have ne_sr100_sr112 : sr100 ≠ sr112 := Nat.ne_of_lt (Nat.lt_of_lt_of_le Es100.lt szs112)
  have ne_sb100_sr112 : sb100 ≠ sr112 := Nat.ne_of_lt (Nat.lt_of_lt_of_le Va100.lt szs112)
  have f115 := f103.keep K112 all0
  have f116 := f104.keep K112
  have f117 := f105.keep K112 nin0
  have f118 := f106.keep K112 nin0
  have f119 := f107.keep K112 nin0
  have f120 := Es100.keep K112
  have f121 := Fv100.keep K112 nin0
  have f122 := Fc100.keep K112 nin0
  have f123 := Va100.keep K112 nin0
  have Z124 : n0 ≤ T112.heap.size := Nat.le_trans Z108 K112.1
  have KP125 : Keep h0 T112.heap [] := KP109.trans K112 all0
  obtain ⟨Es112, Fv112, Fc112, Va112⟩ := SS112
  have K126 : ∀ t, Steps p.tables e below (T112.setTop (mkF m 329 #[.val (.int p1), .val (.int p2), .val (.int p3), .val (.int p4), .val (.int p5), .val (.int shq), .val (.int shg), .val (.int shp), .val (.int qa0), .val (.int qa1), .val (.int qla), .val (.int qb0), .val (.int qb1), .val (.int qlb), .val (.int ga0), .val (.int ga1), .val (.int gla), .val (.int gb0), .val (.int gb1), .val (.int glb), .val (.int pa0), .val (.int pa1), .val (.int pla), .val (.int pb0), .val (.int pb1), .val (.int plb), .val (.ref sr92), .val (.ref sr100), .unset, .unset, .unset, .unset, .unset, .unset, .unset, .unset] [(.ref sr112)])) t → Steps p.tables e below G t := fun t k => K111 t (st112.trans k)
  have K127 : ∀ t, Steps p.tables e below (T112.setTop (mkF m 337 #[.val (.int p1), .val (.int p2), .val (.int p3), .val (.int p4), .val (.int p5), .val (.int shq), .val (.int shg), .val (.int shp), .val (.int qa0), .val (.int qa1), .val (.int qla), .val (.int qb0), .val (.int qb1), .val (.int qlb), .val (.int ga0), .val (.int ga1), .val (.int gla), .val (.int gb0), .val (.int gb1), .val (.int glb), .val (.int pa0), .val (.int pa1), .val (.int pla), .val (.int pb0), .val (.int pb1), .val (.int plb), .val (.ref sr92), .val (.ref sr100), .val (.ref sr112), .unset, .unset, .unset, .unset, .unset, .unset, .unset] [(.int qlb), (.int qb1), (.int qb0)])) t → Steps p.tables e below G t := by
    intro t k
    refine K126 t ?_
    show Steps p.tables e below (T112.setTop (mkF m 329 #[.val (.int p1), .val (.int p2), .val (.int p3), .val (.int p4), .val (.int p5), .val (.int shq), .val (.int shg), .val (.int shp), .val (.int qa0), .val (.int qa1), .val (.int qla), .val (.int qb0), .val (.int qb1), .val (.int qlb), .val (.int ga0), .val (.int ga1), .val (.int gla), .val (.int gb0), .val (.int gb1), .val (.int glb), .val (.int pa0), .val (.int pa1), .val (.int pla), .val (.int pb0), .val (.int pb1), .val (.int plb), .val (.ref sr92), .val (.ref sr100), .unset, .unset, .unset, .unset, .unset, .unset, .unset, .unset] [(.ref sr112)])) _
    refine XS.astore X112.here hx rfl (hb hby at_329) rfl rfl (l' := #[.val (.int p1), .val (.int p2), .val (.int p3), .val (.int p4), .val (.int p5), .val (.int shq), .val (.int shg), .val (.int shp), .val (.int qa0), .val (.int qa1), .val (.int qla), .val (.int qb0), .val (.int qb1), .val (.int qlb), .val (.int ga0), .val (.int ga1), .val (.int gla), .val (.int gb0), .val (.int gb1), .val (.int glb), .val (.int pa0), .val (.int pa1), .val (.int pla), .val (.int pb0), .val (.int pb1), .val (.int plb), .val (.ref sr92), .val (.ref sr100), .val (.ref sr112), .unset, .unset, .unset, .unset, .unset, .unset, .unset]) rfl ?_
    show Steps p.tables e below (T112.setTop (mkF m 331 #[.val (.int p1), .val (.int p2), .val (.int p3), .val (.int p4), .val (.int p5), .val (.int shq), .val (.int shg), .val (.int shp), .val (.int qa0), .val (.int qa1), .val (.int qla), .val (.int qb0), .val (.int qb1), .val (.int qlb), .val (.int ga0), .val (.int ga1), .val (.int gla), .val (.int gb0), .val (.int gb1), .val (.int glb), .val (.int pa0), .val (.int pa1), .val (.int pla), .val (.int pb0), .val (.int pb1), .val (.int plb), .val (.ref sr92), .val (.ref sr100), .val (.ref sr112), .unset, .unset, .unset, .unset, .unset, .unset, .unset] [])) _
    refine XS.iload X112.here hx rfl (hb hby at_331) rfl ?_
    show Steps p.tables e below (T112.setTop (mkF m 333 #[.val (.int p1), .val (.int p2), .val (.int p3), .val (.int p4), .val (.int p5), .val (.int shq), .val (.int shg), .val (.int shp), .val (.int qa0), .val (.int qa1), .val (.int qla), .val (.int qb0), .val (.int qb1), .val (.int qlb), .val (.int ga0), .val (.int ga1), .val (.int gla), .val (.int gb0), .val (.int gb1), .val (.int glb), .val (.int pa0), .val (.int pa1), .val (.int pla), .val (.int pb0), .val (.int pb1), .val (.int plb), .val (.ref sr92), .val (.ref sr100), .val (.ref sr112), .unset, .unset, .unset, .unset, .unset, .unset, .unset] [(.int qb0)])) _
    refine XS.iload X112.here hx rfl (hb hby at_333) rfl ?_
    show Steps p.tables e below (T112.setTop (mkF m 335 #[.val (.int p1), .val (.int p2), .val (.int p3), .val (.int p4), .val (.int p5), .val (.int shq), .val (.int shg), .val (.int shp), .val (.int qa0), .val (.int qa1), .val (.int qla), .val (.int qb0), .val (.int qb1), .val (.int qlb), .val (.int ga0), .val (.int ga1), .val (.int gla), .val (.int gb0), .val (.int gb1), .val (.int glb), .val (.int pa0), .val (.int pa1), .val (.int pla), .val (.int pb0), .val (.int pb1), .val (.int plb), .val (.ref sr92), .val (.ref sr100), .val (.ref sr112), .unset, .unset, .unset, .unset, .unset, .unset, .unset] [(.int qb1), (.int qb0)])) _
    refine XS.iload X112.here hx rfl (hb hby at_335) rfl ?_
    show Steps p.tables e below (T112.setTop (mkF m 337 #[.val (.int p1), .val (.int p2), .val (.int p3), .val (.int p4), .val (.int p5), .val (.int shq), .val (.int shg), .val (.int shp), .val (.int qa0), .val (.int qa1), .val (.int qla), .val (.int qb0), .val (.int qb1), .val (.int qlb), .val (.int ga0), .val (.int ga1), .val (.int gla), .val (.int gb0), .val (.int gb1), .val (.int glb), .val (.int pa0), .val (.int pa1), .val (.int pla), .val (.int pb0), .val (.int pb1), .val (.int plb), .val (.ref sr92), .val (.ref sr100), .val (.ref sr112), .unset, .unset, .unset, .unset, .unset, .unset, .unset] [(.int qlb), (.int qb1), (.int qb0)])) _
    exact k
  obtain ⟨_, _, ⟨T128, L128, kk128, nn128⟩, -, Xq128, hSq128, gq128, ⟨Lc128, hQ128, lq128, yq128, zq128, CHq128⟩, st128⟩ := callSS X112 hx (y := (⟨"com/example/conq/conq/model/GroupPartitionEqualsPinLaw", "mk", "(III)Ljava/lang/String;"⟩ : MethodName)) hown (mvT hZ (hw _ (List.mem_of_getElem? (i := 4) rfl))) (mvT hZ (hw _ (List.mem_of_getElem? (i := 5) rfl))) (mvT hZ (hw _ (List.mem_of_getElem? (i := 2) rfl))) (mvT hZ (hw _ (List.mem_of_getElem? (i := 6) rfl))) (by decide) (backOfSH (s := s) (vm0 := T112.vm) (W := 0) (rm2 l Z a0 hw [] qb0 qb1 qlb cs T112.heap n0 Z124 hEL SC hcs f115 (own_i2c hb_qb0).2 (own_i2c hb_qb1).2) hZ (hw _ (List.mem_of_getElem? (i := 6) rfl)) (hw _ (List.mem_of_getElem? (i := 2) rfl)) (by decide) (by decide) hEL CH112.1) (g := (mkF m 337 #[.val (.int p1), .val (.int p2), .val (.int p3), .val (.int p4), .val (.int p5), .val (.int shq), .val (.int shg), .val (.int shp), .val (.int qa0), .val (.int qa1), .val (.int qla), .val (.int qb0), .val (.int qb1), .val (.int qlb), .val (.int ga0), .val (.int ga1), .val (.int gla), .val (.int gb0), .val (.int gb1), .val (.int glb), .val (.int pa0), .val (.int pa1), .val (.int pla), .val (.int pb0), .val (.int pb1), .val (.int plb), .val (.ref sr92), .val (.ref sr100), .val (.ref sr112), .unset, .unset, .unset, .unset, .unset, .unset, .unset] [(.int qlb), (.int qb1), (.int qb0)])) rfl (by rw [hml]; rfl) (argsL := [(.int qb0), (.int qb1), (.int qlb)]) (rest := []) (lenOf pd_9 rfl) rfl (by show 2 * 0 + _ ≤ _; exact Nat.le_of_eq rfl) (hb hby at_337) (fun _ _ => ⟨rfl, rfl, (by decide : 18 + 6 ≤ _), (by decide : 36 + 12 ≤ _)⟩)
  dsimp only [Pt.U, Pt.locs, Pt.cells, Pt.slots] at Xq128 hSq128 gq128 lq128 yq128 zq128 st128 hQ128 CHq128
  subst lq128 yq128 zq128
  obtain ⟨X128, hS128, hZ, hown⟩ := rebS hS112 kS113 Xq128 hSq128 gq128 hZ hown
  have CH128 := CH112.trans CHq128
  have kS129 : T128.heap.size ≤ T128.heap.size := Nat.le_refl _
  obtain ⟨sr128, sb128, sk128, sz128, sv128, rfl, Nq128, K128, szs128, SS128, fm128⟩ := hQ128
  rw [(own_i2c hb_qb0).1, (own_i2c hb_qb1).1] at fm128
  have N130 := Fr.app N114 Nq128
  have ne_sr92_sr128 : sr92 ≠ sr128 := Nat.ne_of_lt (Nat.lt_of_lt_of_le f116.lt szs128)
  have ne_sb92_sr128 : sb92 ≠ sr128 := Nat.ne_of_lt (Nat.lt_of_lt_of_le f119.lt szs128)
  have ne_sr100_sr128 : sr100 ≠ sr128 := Nat.ne_of_lt (Nat.lt_of_lt_of_le f120.lt szs128)
  have ne_sb100_sr128 : sb100 ≠ sr128 := Nat.ne_of_lt (Nat.lt_of_lt_of_le f123.lt szs128)
  have ne_sr112_sr128 : sr112 ≠ sr128 := Nat.ne_of_lt (Nat.lt_of_lt_of_le Es112.lt szs128)
  have ne_sb112_sr128 : sb112 ≠ sr128 := Nat.ne_of_lt (Nat.lt_of_lt_of_le Va112.lt szs128)
  have f131 := f115.keep K128 all0
  have f132 := f116.keep K128
  have f133 := f117.keep K128 nin0
  have f134 := f118.keep K128 nin0
  have f135 := f119.keep K128 nin0
  have f136 := f120.keep K128
  have f137 := f121.keep K128 nin0
  have f138 := f122.keep K128 nin0
  have f139 := f123.keep K128 nin0
  have f140 := Es112.keep K128
  have f141 := Fv112.keep K128 nin0
  have f142 := Fc112.keep K128 nin0
  have f143 := Va112.keep K128 nin0
  have Z144 : n0 ≤ T128.heap.size := Nat.le_trans Z124 K128.1
  have KP145 : Keep h0 T128.heap [] := KP125.trans K128 all0
  obtain ⟨Es128, Fv128, Fc128, Va128⟩ := SS128
  have K146 : ∀ t, Steps p.tables e below (T128.setTop (mkF m 340 #[.val (.int p1), .val (.int p2), .val (.int p3), .val (.int p4), .val (.int p5), .val (.int shq), .val (.int shg), .val (.int shp), .val (.int qa0), .val (.int qa1), .val (.int qla), .val (.int qb0), .val (.int qb1), .val (.int qlb), .val (.int ga0), .val (.int ga1), .val (.int gla), .val (.int gb0), .val (.int gb1), .val (.int glb), .val (.int pa0), .val (.int pa1), .val (.int pla), .val (.int pb0), .val (.int pb1), .val (.int plb), .val (.ref sr92), .val (.ref sr100), .val (.ref sr112), .unset, .unset, .unset, .unset, .unset, .unset, .unset] [(.ref sr128)])) t → Steps p.tables e below G t := fun t k => K127 t (st128.trans k)
  have K147 : ∀ t, Steps p.tables e below (T128.setTop (mkF m 348 #[.val (.int p1), .val (.int p2), .val (.int p3), .val (.int p4), .val (.int p5), .val (.int shq), .val (.int shg), .val (.int shp), .val (.int qa0), .val (.int qa1), .val (.int qla), .val (.int qb0), .val (.int qb1), .val (.int qlb), .val (.int ga0), .val (.int ga1), .val (.int gla), .val (.int gb0), .val (.int gb1), .val (.int glb), .val (.int pa0), .val (.int pa1), .val (.int pla), .val (.int pb0), .val (.int pb1), .val (.int plb), .val (.ref sr92), .val (.ref sr100), .val (.ref sr112), .val (.ref sr128), .unset, .unset, .unset, .unset, .unset, .unset] [(.int glb), (.int gb1), (.int gb0)])) t → Steps p.tables e below G t := by
    intro t k
    refine K146 t ?_
    show Steps p.tables e below (T128.setTop (mkF m 340 #[.val (.int p1), .val (.int p2), .val (.int p3), .val (.int p4), .val (.int p5), .val (.int shq), .val (.int shg), .val (.int shp), .val (.int qa0), .val (.int qa1), .val (.int qla), .val (.int qb0), .val (.int qb1), .val (.int qlb), .val (.int ga0), .val (.int ga1), .val (.int gla), .val (.int gb0), .val (.int gb1), .val (.int glb), .val (.int pa0), .val (.int pa1), .val (.int pla), .val (.int pb0), .val (.int pb1), .val (.int plb), .val (.ref sr92), .val (.ref sr100), .val (.ref sr112), .unset, .unset, .unset, .unset, .unset, .unset, .unset] [(.ref sr128)])) _
    refine XS.astore X128.here hx rfl (hb hby at_340) rfl rfl (l' := #[.val (.int p1), .val (.int p2), .val (.int p3), .val (.int p4), .val (.int p5), .val (.int shq), .val (.int shg), .val (.int shp), .val (.int qa0), .val (.int qa1), .val (.int qla), .val (.int qb0), .val (.int qb1), .val (.int qlb), .val (.int ga0), .val (.int ga1), .val (.int gla), .val (.int gb0), .val (.int gb1), .val (.int glb), .val (.int pa0), .val (.int pa1), .val (.int pla), .val (.int pb0), .val (.int pb1), .val (.int plb), .val (.ref sr92), .val (.ref sr100), .val (.ref sr112), .val (.ref sr128), .unset, .unset, .unset, .unset, .unset, .unset]) rfl ?_
    show Steps p.tables e below (T128.setTop (mkF m 342 #[.val (.int p1), .val (.int p2), .val (.int p3), .val (.int p4), .val (.int p5), .val (.int shq), .val (.int shg), .val (.int shp), .val (.int qa0), .val (.int qa1), .val (.int qla), .val (.int qb0), .val (.int qb1), .val (.int qlb), .val (.int ga0), .val (.int ga1), .val (.int gla), .val (.int gb0), .val (.int gb1), .val (.int glb), .val (.int pa0), .val (.int pa1), .val (.int pla), .val (.int pb0), .val (.int pb1), .val (.int plb), .val (.ref sr92), .val (.ref sr100), .val (.ref sr112), .val (.ref sr128), .unset, .unset, .unset, .unset, .unset, .unset] [])) _
    refine XS.iload X128.here hx rfl (hb hby at_342) rfl ?_
    show Steps p.tables e below (T128.setTop (mkF m 344 #[.val (.int p1), .val (.int p2), .val (.int p3), .val (.int p4), .val (.int p5), .val (.int shq), .val (.int shg), .val (.int shp), .val (.int qa0), .val (.int qa1), .val (.int qla), .val (.int qb0), .val (.int qb1), .val (.int qlb), .val (.int ga0), .val (.int ga1), .val (.int gla), .val (.int gb0), .val (.int gb1), .val (.int glb), .val (.int pa0), .val (.int pa1), .val (.int pla), .val (.int pb0), .val (.int pb1), .val (.int plb), .val (.ref sr92), .val (.ref sr100), .val (.ref sr112), .val (.ref sr128), .unset, .unset, .unset, .unset, .unset, .unset] [(.int gb0)])) _
    refine XS.iload X128.here hx rfl (hb hby at_344) rfl ?_
    show Steps p.tables e below (T128.setTop (mkF m 346 #[.val (.int p1), .val (.int p2), .val (.int p3), .val (.int p4), .val (.int p5), .val (.int shq), .val (.int shg), .val (.int shp), .val (.int qa0), .val (.int qa1), .val (.int qla), .val (.int qb0), .val (.int qb1), .val (.int qlb), .val (.int ga0), .val (.int ga1), .val (.int gla), .val (.int gb0), .val (.int gb1), .val (.int glb), .val (.int pa0), .val (.int pa1), .val (.int pla), .val (.int pb0), .val (.int pb1), .val (.int plb), .val (.ref sr92), .val (.ref sr100), .val (.ref sr112), .val (.ref sr128), .unset, .unset, .unset, .unset, .unset, .unset] [(.int gb1), (.int gb0)])) _
    refine XS.iload X128.here hx rfl (hb hby at_346) rfl ?_
    show Steps p.tables e below (T128.setTop (mkF m 348 #[.val (.int p1), .val (.int p2), .val (.int p3), .val (.int p4), .val (.int p5), .val (.int shq), .val (.int shg), .val (.int shp), .val (.int qa0), .val (.int qa1), .val (.int qla), .val (.int qb0), .val (.int qb1), .val (.int qlb), .val (.int ga0), .val (.int ga1), .val (.int gla), .val (.int gb0), .val (.int gb1), .val (.int glb), .val (.int pa0), .val (.int pa1), .val (.int pla), .val (.int pb0), .val (.int pb1), .val (.int plb), .val (.ref sr92), .val (.ref sr100), .val (.ref sr112), .val (.ref sr128), .unset, .unset, .unset, .unset, .unset, .unset] [(.int glb), (.int gb1), (.int gb0)])) _
    exact k
  obtain ⟨_, _, ⟨T148, L148, kk148, nn148⟩, -, Xq148, hSq148, gq148, ⟨Lc148, hQ148, lq148, yq148, zq148, CHq148⟩, st148⟩ := callSS X128 hx (y := (⟨"com/example/conq/conq/model/GroupPartitionEqualsPinLaw", "mk", "(III)Ljava/lang/String;"⟩ : MethodName)) hown (mvT hZ (hw _ (List.mem_of_getElem? (i := 4) rfl))) (mvT hZ (hw _ (List.mem_of_getElem? (i := 5) rfl))) (mvT hZ (hw _ (List.mem_of_getElem? (i := 2) rfl))) (mvT hZ (hw _ (List.mem_of_getElem? (i := 6) rfl))) (by decide) (backOfSH (s := s) (vm0 := T128.vm) (W := 0) (rm2 l Z a0 hw [] gb0 gb1 glb cs T128.heap n0 Z144 hEL SC hcs f131 (own_i2c hb_gb0).2 (own_i2c hb_gb1).2) hZ (hw _ (List.mem_of_getElem? (i := 6) rfl)) (hw _ (List.mem_of_getElem? (i := 2) rfl)) (by decide) (by decide) hEL CH128.1) (g := (mkF m 348 #[.val (.int p1), .val (.int p2), .val (.int p3), .val (.int p4), .val (.int p5), .val (.int shq), .val (.int shg), .val (.int shp), .val (.int qa0), .val (.int qa1), .val (.int qla), .val (.int qb0), .val (.int qb1), .val (.int qlb), .val (.int ga0), .val (.int ga1), .val (.int gla), .val (.int gb0), .val (.int gb1), .val (.int glb), .val (.int pa0), .val (.int pa1), .val (.int pla), .val (.int pb0), .val (.int pb1), .val (.int plb), .val (.ref sr92), .val (.ref sr100), .val (.ref sr112), .val (.ref sr128), .unset, .unset, .unset, .unset, .unset, .unset] [(.int glb), (.int gb1), (.int gb0)])) rfl (by rw [hml]; rfl) (argsL := [(.int gb0), (.int gb1), (.int glb)]) (rest := []) (lenOf pd_9 rfl) rfl (by show 2 * 0 + _ ≤ _; exact Nat.le_of_eq rfl) (hb hby at_348) (fun _ _ => ⟨rfl, rfl, (by decide : 24 + 6 ≤ _), (by decide : 48 + 12 ≤ _)⟩)
  dsimp only [Pt.U, Pt.locs, Pt.cells, Pt.slots] at Xq148 hSq148 gq148 lq148 yq148 zq148 st148 hQ148 CHq148
  subst lq148 yq148 zq148
  obtain ⟨X148, hS148, hZ, hown⟩ := rebS hS128 kS129 Xq148 hSq148 gq148 hZ hown
  have CH148 := CH128.trans CHq148
  have kS149 : T148.heap.size ≤ T148.heap.size := Nat.le_refl _
  obtain ⟨sr148, sb148, sk148, sz148, sv148, rfl, Nq148, K148, szs148, SS148, fm148⟩ := hQ148
  rw [(own_i2c hb_gb0).1, (own_i2c hb_gb1).1] at fm148
  have N150 := Fr.app N130 Nq148
  have ne_sr92_sr148 : sr92 ≠ sr148 := Nat.ne_of_lt (Nat.lt_of_lt_of_le f132.lt szs148)
  have ne_sb92_sr148 : sb92 ≠ sr148 := Nat.ne_of_lt (Nat.lt_of_lt_of_le f135.lt szs148)
  have ne_sr100_sr148 : sr100 ≠ sr148 := Nat.ne_of_lt (Nat.lt_of_lt_of_le f136.lt szs148)
  have ne_sb100_sr148 : sb100 ≠ sr148 := Nat.ne_of_lt (Nat.lt_of_lt_of_le f139.lt szs148)
  have ne_sr112_sr148 : sr112 ≠ sr148 := Nat.ne_of_lt (Nat.lt_of_lt_of_le f140.lt szs148)
  have ne_sb112_sr148 : sb112 ≠ sr148 := Nat.ne_of_lt (Nat.lt_of_lt_of_le f143.lt szs148)
  have ne_sr128_sr148 : sr128 ≠ sr148 := Nat.ne_of_lt (Nat.lt_of_lt_of_le Es128.lt szs148)
  have ne_sb128_sr148 : sb128 ≠ sr148 := Nat.ne_of_lt (Nat.lt_of_lt_of_le Va128.lt szs148)
  have f151 := f131.keep K148 all0
  have f152 := f132.keep K148
  have f153 := f133.keep K148 nin0
  have f154 := f134.keep K148 nin0
  have f155 := f135.keep K148 nin0
  have f156 := f136.keep K148
  have f157 := f137.keep K148 nin0
  have f158 := f138.keep K148 nin0
  have f159 := f139.keep K148 nin0
  have f160 := f140.keep K148
  have f161 := f141.keep K148 nin0
  have f162 := f142.keep K148 nin0
  have f163 := f143.keep K148 nin0
  have f164 := Es128.keep K148
  have f165 := Fv128.keep K148 nin0
  have f166 := Fc128.keep K148 nin0
  have f167 := Va128.keep K148 nin0
  have Z168 : n0 ≤ T148.heap.size := Nat.le_trans Z144 K148.1
  have KP169 : Keep h0 T148.heap [] := KP145.trans K148 all0
  obtain ⟨Es148, Fv148, Fc148, Va148⟩ := SS148
  have K170 : ∀ t, Steps p.tables e below (T148.setTop (mkF m 351 #[.val (.int p1), .val (.int p2), .val (.int p3), .val (.int p4), .val (.int p5), .val (.int shq), .val (.int shg), .val (.int shp), .val (.int qa0), .val (.int qa1), .val (.int qla), .val (.int qb0), .val (.int qb1), .val (.int qlb), .val (.int ga0), .val (.int ga1), .val (.int gla), .val (.int gb0), .val (.int gb1), .val (.int glb), .val (.int pa0), .val (.int pa1), .val (.int pla), .val (.int pb0), .val (.int pb1), .val (.int plb), .val (.ref sr92), .val (.ref sr100), .val (.ref sr112), .val (.ref sr128), .unset, .unset, .unset, .unset, .unset, .unset] [(.ref sr148)])) t → Steps p.tables e below G t := fun t k => K147 t (st148.trans k)
  have K171 : ∀ t, Steps p.tables e below (T148.setTop (mkF m 359 #[.val (.int p1), .val (.int p2), .val (.int p3), .val (.int p4), .val (.int p5), .val (.int shq), .val (.int shg), .val (.int shp), .val (.int qa0), .val (.int qa1), .val (.int qla), .val (.int qb0), .val (.int qb1), .val (.int qlb), .val (.int ga0), .val (.int ga1), .val (.int gla), .val (.int gb0), .val (.int gb1), .val (.int glb), .val (.int pa0), .val (.int pa1), .val (.int pla), .val (.int pb0), .val (.int pb1), .val (.int plb), .val (.ref sr92), .val (.ref sr100), .val (.ref sr112), .val (.ref sr128), .val (.ref sr148), .unset, .unset, .unset, .unset, .unset] [(.int plb), (.int pb1), (.int pb0)])) t → Steps p.tables e below G t := by
    intro t k
    refine K170 t ?_
    show Steps p.tables e below (T148.setTop (mkF m 351 #[.val (.int p1), .val (.int p2), .val (.int p3), .val (.int p4), .val (.int p5), .val (.int shq), .val (.int shg), .val (.int shp), .val (.int qa0), .val (.int qa1), .val (.int qla), .val (.int qb0), .val (.int qb1), .val (.int qlb), .val (.int ga0), .val (.int ga1), .val (.int gla), .val (.int gb0), .val (.int gb1), .val (.int glb), .val (.int pa0), .val (.int pa1), .val (.int pla), .val (.int pb0), .val (.int pb1), .val (.int plb), .val (.ref sr92), .val (.ref sr100), .val (.ref sr112), .val (.ref sr128), .unset, .unset, .unset, .unset, .unset, .unset] [(.ref sr148)])) _
    refine XS.astore X148.here hx rfl (hb hby at_351) rfl rfl (l' := #[.val (.int p1), .val (.int p2), .val (.int p3), .val (.int p4), .val (.int p5), .val (.int shq), .val (.int shg), .val (.int shp), .val (.int qa0), .val (.int qa1), .val (.int qla), .val (.int qb0), .val (.int qb1), .val (.int qlb), .val (.int ga0), .val (.int ga1), .val (.int gla), .val (.int gb0), .val (.int gb1), .val (.int glb), .val (.int pa0), .val (.int pa1), .val (.int pla), .val (.int pb0), .val (.int pb1), .val (.int plb), .val (.ref sr92), .val (.ref sr100), .val (.ref sr112), .val (.ref sr128), .val (.ref sr148), .unset, .unset, .unset, .unset, .unset]) rfl ?_
    show Steps p.tables e below (T148.setTop (mkF m 353 #[.val (.int p1), .val (.int p2), .val (.int p3), .val (.int p4), .val (.int p5), .val (.int shq), .val (.int shg), .val (.int shp), .val (.int qa0), .val (.int qa1), .val (.int qla), .val (.int qb0), .val (.int qb1), .val (.int qlb), .val (.int ga0), .val (.int ga1), .val (.int gla), .val (.int gb0), .val (.int gb1), .val (.int glb), .val (.int pa0), .val (.int pa1), .val (.int pla), .val (.int pb0), .val (.int pb1), .val (.int plb), .val (.ref sr92), .val (.ref sr100), .val (.ref sr112), .val (.ref sr128), .val (.ref sr148), .unset, .unset, .unset, .unset, .unset] [])) _
    refine XS.iload X148.here hx rfl (hb hby at_353) rfl ?_
    show Steps p.tables e below (T148.setTop (mkF m 355 #[.val (.int p1), .val (.int p2), .val (.int p3), .val (.int p4), .val (.int p5), .val (.int shq), .val (.int shg), .val (.int shp), .val (.int qa0), .val (.int qa1), .val (.int qla), .val (.int qb0), .val (.int qb1), .val (.int qlb), .val (.int ga0), .val (.int ga1), .val (.int gla), .val (.int gb0), .val (.int gb1), .val (.int glb), .val (.int pa0), .val (.int pa1), .val (.int pla), .val (.int pb0), .val (.int pb1), .val (.int plb), .val (.ref sr92), .val (.ref sr100), .val (.ref sr112), .val (.ref sr128), .val (.ref sr148), .unset, .unset, .unset, .unset, .unset] [(.int pb0)])) _
    refine XS.iload X148.here hx rfl (hb hby at_355) rfl ?_
    show Steps p.tables e below (T148.setTop (mkF m 357 #[.val (.int p1), .val (.int p2), .val (.int p3), .val (.int p4), .val (.int p5), .val (.int shq), .val (.int shg), .val (.int shp), .val (.int qa0), .val (.int qa1), .val (.int qla), .val (.int qb0), .val (.int qb1), .val (.int qlb), .val (.int ga0), .val (.int ga1), .val (.int gla), .val (.int gb0), .val (.int gb1), .val (.int glb), .val (.int pa0), .val (.int pa1), .val (.int pla), .val (.int pb0), .val (.int pb1), .val (.int plb), .val (.ref sr92), .val (.ref sr100), .val (.ref sr112), .val (.ref sr128), .val (.ref sr148), .unset, .unset, .unset, .unset, .unset] [(.int pb1), (.int pb0)])) _
    refine XS.iload X148.here hx rfl (hb hby at_357) rfl ?_
    show Steps p.tables e below (T148.setTop (mkF m 359 #[.val (.int p1), .val (.int p2), .val (.int p3), .val (.int p4), .val (.int p5), .val (.int shq), .val (.int shg), .val (.int shp), .val (.int qa0), .val (.int qa1), .val (.int qla), .val (.int qb0), .val (.int qb1), .val (.int qlb), .val (.int ga0), .val (.int ga1), .val (.int gla), .val (.int gb0), .val (.int gb1), .val (.int glb), .val (.int pa0), .val (.int pa1), .val (.int pla), .val (.int pb0), .val (.int pb1), .val (.int plb), .val (.ref sr92), .val (.ref sr100), .val (.ref sr112), .val (.ref sr128), .val (.ref sr148), .unset, .unset, .unset, .unset, .unset] [(.int plb), (.int pb1), (.int pb0)])) _
    exact k
  obtain ⟨_, _, ⟨T172, L172, kk172, nn172⟩, -, Xq172, hSq172, gq172, ⟨Lc172, hQ172, lq172, yq172, zq172, CHq172⟩, st172⟩ := callSS X148 hx (y := (⟨"com/example/conq/conq/model/GroupPartitionEqualsPinLaw", "mk", "(III)Ljava/lang/String;"⟩ : MethodName)) hown (mvT hZ (hw _ (List.mem_of_getElem? (i := 4) rfl))) (mvT hZ (hw _ (List.mem_of_getElem? (i := 5) rfl))) (mvT hZ (hw _ (List.mem_of_getElem? (i := 2) rfl))) (mvT hZ (hw _ (List.mem_of_getElem? (i := 6) rfl))) (by decide) (backOfSH (s := s) (vm0 := T148.vm) (W := 0) (rm2 l Z a0 hw [] pb0 pb1 plb cs T148.heap n0 Z168 hEL SC hcs f151 (own_i2c hb_pb0).2 (own_i2c hb_pb1).2) hZ (hw _ (List.mem_of_getElem? (i := 6) rfl)) (hw _ (List.mem_of_getElem? (i := 2) rfl)) (by decide) (by decide) hEL CH148.1) (g := (mkF m 359 #[.val (.int p1), .val (.int p2), .val (.int p3), .val (.int p4), .val (.int p5), .val (.int shq), .val (.int shg), .val (.int shp), .val (.int qa0), .val (.int qa1), .val (.int qla), .val (.int qb0), .val (.int qb1), .val (.int qlb), .val (.int ga0), .val (.int ga1), .val (.int gla), .val (.int gb0), .val (.int gb1), .val (.int glb), .val (.int pa0), .val (.int pa1), .val (.int pla), .val (.int pb0), .val (.int pb1), .val (.int plb), .val (.ref sr92), .val (.ref sr100), .val (.ref sr112), .val (.ref sr128), .val (.ref sr148), .unset, .unset, .unset, .unset, .unset] [(.int plb), (.int pb1), (.int pb0)])) rfl (by rw [hml]; rfl) (argsL := [(.int pb0), (.int pb1), (.int plb)]) (rest := []) (lenOf pd_9 rfl) rfl (by show 2 * 0 + _ ≤ _; exact Nat.le_of_eq rfl) (hb hby at_359) (fun _ _ => ⟨rfl, rfl, (by decide : 30 + 6 ≤ _), (by decide : 60 + 12 ≤ _)⟩)
  dsimp only [Pt.U, Pt.locs, Pt.cells, Pt.slots] at Xq172 hSq172 gq172 lq172 yq172 zq172 st172 hQ172 CHq172
  subst lq172 yq172 zq172
  obtain ⟨X172, hS172, hZ, hown⟩ := rebS hS148 kS149 Xq172 hSq172 gq172 hZ hown
  have CH172 := CH148.trans CHq172
  have kS173 : T172.heap.size ≤ T172.heap.size := Nat.le_refl _
  obtain ⟨sr172, sb172, sk172, sz172, sv172, rfl, Nq172, K172, szs172, SS172, fm172⟩ := hQ172
  rw [(own_i2c hb_pb0).1, (own_i2c hb_pb1).1] at fm172
  have N174 := Fr.app N150 Nq172
  have ne_sr92_sr172 : sr92 ≠ sr172 := Nat.ne_of_lt (Nat.lt_of_lt_of_le f152.lt szs172)
  have ne_sb92_sr172 : sb92 ≠ sr172 := Nat.ne_of_lt (Nat.lt_of_lt_of_le f155.lt szs172)
  have ne_sr100_sr172 : sr100 ≠ sr172 := Nat.ne_of_lt (Nat.lt_of_lt_of_le f156.lt szs172)
  have ne_sb100_sr172 : sb100 ≠ sr172 := Nat.ne_of_lt (Nat.lt_of_lt_of_le f159.lt szs172)
  have ne_sr112_sr172 : sr112 ≠ sr172 := Nat.ne_of_lt (Nat.lt_of_lt_of_le f160.lt szs172)
  have ne_sb112_sr172 : sb112 ≠ sr172 := Nat.ne_of_lt (Nat.lt_of_lt_of_le f163.lt szs172)
  have ne_sr128_sr172 : sr128 ≠ sr172 := Nat.ne_of_lt (Nat.lt_of_lt_of_le f164.lt szs172)
  have ne_sb128_sr172 : sb128 ≠ sr172 := Nat.ne_of_lt (Nat.lt_of_lt_of_le f167.lt szs172)
  have ne_sr148_sr172 : sr148 ≠ sr172 := Nat.ne_of_lt (Nat.lt_of_lt_of_le Es148.lt szs172)
  have ne_sb148_sr172 : sb148 ≠ sr172 := Nat.ne_of_lt (Nat.lt_of_lt_of_le Va148.lt szs172)
  have f175 := f151.keep K172 all0
  have f176 := f152.keep K172
  have f177 := f153.keep K172 nin0
  have f178 := f154.keep K172 nin0
  have f179 := f155.keep K172 nin0
  have f180 := f156.keep K172
  have f181 := f157.keep K172 nin0
  have f182 := f158.keep K172 nin0
  have f183 := f159.keep K172 nin0
  have f184 := f160.keep K172
  have f185 := f161.keep K172 nin0
  have f186 := f162.keep K172 nin0
  have f187 := f163.keep K172 nin0
  have f188 := f164.keep K172
  have f189 := f165.keep K172 nin0
  have f190 := f166.keep K172 nin0
  have f191 := f167.keep K172 nin0
  have f192 := Es148.keep K172
  have f193 := Fv148.keep K172 nin0
  have f194 := Fc148.keep K172 nin0
  have f195 := Va148.keep K172 nin0
  have Z196 : n0 ≤ T172.heap.size := Nat.le_trans Z168 K172.1
  have KP197 : Keep h0 T172.heap [] := KP169.trans K172 all0
  obtain ⟨Es172, Fv172, Fc172, Va172⟩ := SS172
  have K198 : ∀ t, Steps p.tables e below (T172.setTop (mkF m 362 #[.val (.int p1), .val (.int p2), .val (.int p3), .val (.int p4), .val (.int p5), .val (.int shq), .val (.int shg), .val (.int shp), .val (.int qa0), .val (.int qa1), .val (.int qla), .val (.int qb0), .val (.int qb1), .val (.int qlb), .val (.int ga0), .val (.int ga1), .val (.int gla), .val (.int gb0), .val (.int gb1), .val (.int glb), .val (.int pa0), .val (.int pa1), .val (.int pla), .val (.int pb0), .val (.int pb1), .val (.int plb), .val (.ref sr92), .val (.ref sr100), .val (.ref sr112), .val (.ref sr128), .val (.ref sr148), .unset, .unset, .unset, .unset, .unset] [(.ref sr172)])) t → Steps p.tables e below G t := fun t k => K171 t (st172.trans k)
  have K199 : ∀ t, Steps p.tables e below (T172.setTop (mkF m 364 #[.val (.int p1), .val (.int p2), .val (.int p3), .val (.int p4), .val (.int p5), .val (.int shq), .val (.int shg), .val (.int shp), .val (.int qa0), .val (.int qa1), .val (.int qla), .val (.int qb0), .val (.int qb1), .val (.int qlb), .val (.int ga0), .val (.int ga1), .val (.int gla), .val (.int gb0), .val (.int gb1), .val (.int glb), .val (.int pa0), .val (.int pa1), .val (.int pla), .val (.int pb0), .val (.int pb1), .val (.int plb), .val (.ref sr92), .val (.ref sr100), .val (.ref sr112), .val (.ref sr128), .val (.ref sr148), .val (.ref sr172), .unset, .unset, .unset, .unset] [])) t → Steps p.tables e below G t := by
    intro t k
    refine K198 t ?_
    show Steps p.tables e below (T172.setTop (mkF m 362 #[.val (.int p1), .val (.int p2), .val (.int p3), .val (.int p4), .val (.int p5), .val (.int shq), .val (.int shg), .val (.int shp), .val (.int qa0), .val (.int qa1), .val (.int qla), .val (.int qb0), .val (.int qb1), .val (.int qlb), .val (.int ga0), .val (.int ga1), .val (.int gla), .val (.int gb0), .val (.int gb1), .val (.int glb), .val (.int pa0), .val (.int pa1), .val (.int pla), .val (.int pb0), .val (.int pb1), .val (.int plb), .val (.ref sr92), .val (.ref sr100), .val (.ref sr112), .val (.ref sr128), .val (.ref sr148), .unset, .unset, .unset, .unset, .unset] [(.ref sr172)])) _
    refine XS.astore X172.here hx rfl (hb hby at_362) rfl rfl (l' := #[.val (.int p1), .val (.int p2), .val (.int p3), .val (.int p4), .val (.int p5), .val (.int shq), .val (.int shg), .val (.int shp), .val (.int qa0), .val (.int qa1), .val (.int qla), .val (.int qb0), .val (.int qb1), .val (.int qlb), .val (.int ga0), .val (.int ga1), .val (.int gla), .val (.int gb0), .val (.int gb1), .val (.int glb), .val (.int pa0), .val (.int pa1), .val (.int pla), .val (.int pb0), .val (.int pb1), .val (.int plb), .val (.ref sr92), .val (.ref sr100), .val (.ref sr112), .val (.ref sr128), .val (.ref sr148), .val (.ref sr172), .unset, .unset, .unset, .unset]) rfl ?_
    show Steps p.tables e below (T172.setTop (mkF m 364 #[.val (.int p1), .val (.int p2), .val (.int p3), .val (.int p4), .val (.int p5), .val (.int shq), .val (.int shg), .val (.int shp), .val (.int qa0), .val (.int qa1), .val (.int qla), .val (.int qb0), .val (.int qb1), .val (.int qlb), .val (.int ga0), .val (.int ga1), .val (.int gla), .val (.int gb0), .val (.int gb1), .val (.int glb), .val (.int pa0), .val (.int pa1), .val (.int pla), .val (.int pb0), .val (.int pb1), .val (.int plb), .val (.ref sr92), .val (.ref sr100), .val (.ref sr112), .val (.ref sr128), .val (.ref sr148), .val (.ref sr172), .unset, .unset, .unset, .unset] [])) _
    exact k
  obtain ⟨T200, h200, X200, e200, E200, A200, D200, -, st200⟩ := newO X172 hx hZ hown (hw _ (List.mem_of_getElem? (i := 40) rfl)) (hw _ (List.mem_of_getElem? (i := 41) rfl)) (hw _ (List.mem_of_getElem? (i := 42) rfl)) rfl (g := (mkF m 364 #[.val (.int p1), .val (.int p2), .val (.int p3), .val (.int p4), .val (.int p5), .val (.int shq), .val (.int shg), .val (.int shp), .val (.int qa0), .val (.int qa1), .val (.int qla), .val (.int qb0), .val (.int qb1), .val (.int qlb), .val (.int ga0), .val (.int ga1), .val (.int gla), .val (.int gb0), .val (.int gb1), .val (.int glb), .val (.int pa0), .val (.int pa1), .val (.int pla), .val (.int pb0), .val (.int pb1), .val (.int plb), .val (.ref sr92), .val (.ref sr100), .val (.ref sr112), .val (.ref sr128), .val (.ref sr148), .val (.ref sr172), .unset, .unset, .unset, .unset] [])) rfl (hb hby at_364) (by decide) (by decide)
  obtain ⟨b200, g200⟩ : ∃ z, z = T172.heap.size := ⟨_, rfl⟩
  rw [← g200] at A200 D200 st200
  have ne_sr92_b200 : sr92 ≠ b200 := Nat.ne_of_lt (Nat.lt_of_lt_of_le f176.lt (Nat.le_of_eq g200.symm))
  have ne_sb92_b200 : sb92 ≠ b200 := Nat.ne_of_lt (Nat.lt_of_lt_of_le f179.lt (Nat.le_of_eq g200.symm))
  have ne_sr100_b200 : sr100 ≠ b200 := Nat.ne_of_lt (Nat.lt_of_lt_of_le f180.lt (Nat.le_of_eq g200.symm))
  have ne_sb100_b200 : sb100 ≠ b200 := Nat.ne_of_lt (Nat.lt_of_lt_of_le f183.lt (Nat.le_of_eq g200.symm))
  have ne_sr112_b200 : sr112 ≠ b200 := Nat.ne_of_lt (Nat.lt_of_lt_of_le f184.lt (Nat.le_of_eq g200.symm))
  have ne_sb112_b200 : sb112 ≠ b200 := Nat.ne_of_lt (Nat.lt_of_lt_of_le f187.lt (Nat.le_of_eq g200.symm))
  have ne_sr128_b200 : sr128 ≠ b200 := Nat.ne_of_lt (Nat.lt_of_lt_of_le f188.lt (Nat.le_of_eq g200.symm))
  have ne_sb128_b200 : sb128 ≠ b200 := Nat.ne_of_lt (Nat.lt_of_lt_of_le f191.lt (Nat.le_of_eq g200.symm))
  have ne_sr148_b200 : sr148 ≠ b200 := Nat.ne_of_lt (Nat.lt_of_lt_of_le f192.lt (Nat.le_of_eq g200.symm))
  have ne_sb148_b200 : sb148 ≠ b200 := Nat.ne_of_lt (Nat.lt_of_lt_of_le f195.lt (Nat.le_of_eq g200.symm))
  have ne_sr172_b200 : sr172 ≠ b200 := Nat.ne_of_lt (Nat.lt_of_lt_of_le Es172.lt (Nat.le_of_eq g200.symm))
  have ne_sb172_b200 : sb172 ≠ b200 := Nat.ne_of_lt (Nat.lt_of_lt_of_le Va172.lt (Nat.le_of_eq g200.symm))
  have g_b200 : n0 ≤ b200 := Nat.le_trans Z196 (Nat.le_of_eq g200.symm)
  have sz_b200 : h0.size ≤ b200 := Nat.le_trans KP197.1 (Nat.le_of_eq g200.symm)
  have CH201 : CHr Z own_EL s.vm h0 T172.vm h200 := CH172.trans (CHr.ext E200 CH172.1)
  have kS202 := Nat.le_trans kS173 E200.1
  have f203 := f175.ext E200
  have f204 := f176.ext E200
  have f205 := f177.ext E200
  have f206 := f178.ext E200
  have f207 := f179.ext E200
  have f208 := f180.ext E200
  have f209 := f181.ext E200
  have f210 := f182.ext E200
  have f211 := f183.ext E200
  have f212 := f184.ext E200
  have f213 := f185.ext E200
  have f214 := f186.ext E200
  have f215 := f187.ext E200
  have f216 := f188.ext E200
  have f217 := f189.ext E200
  have f218 := f190.ext E200
  have f219 := f191.ext E200
  have f220 := f192.ext E200
  have f221 := f193.ext E200
  have f222 := f194.ext E200
  have f223 := f195.ext E200
  have f224 := Es172.ext E200
  have f225 := Fv172.ext E200
  have f226 := Fc172.ext E200
  have f227 := Va172.ext E200
  have Z228 : n0 ≤ h200.size := Nat.le_trans Z196 E200.1
  have KP229 : Keep h0 h200 [] := KP197.ext E200
  have K230 : ∀ t, Steps p.tables e below (T200.setTop (mkF m 367 #[.val (.int p1), .val (.int p2), .val (.int p3), .val (.int p4), .val (.int p5), .val (.int shq), .val (.int shg), .val (.int shp), .val (.int qa0), .val (.int qa1), .val (.int qla), .val (.int qb0), .val (.int qb1), .val (.int qlb), .val (.int ga0), .val (.int ga1), .val (.int gla), .val (.int gb0), .val (.int gb1), .val (.int glb), .val (.int pa0), .val (.int pa1), .val (.int pla), .val (.int pb0), .val (.int pb1), .val (.int plb), .val (.ref sr92), .val (.ref sr100), .val (.ref sr112), .val (.ref sr128), .val (.ref sr148), .val (.ref sr172), .unset, .unset, .unset, .unset] [(.ref b200)])) t → Steps p.tables e below G t := fun t k => K199 t (st200 t k)
  have f231 : Fld Z h200 b200 "com/example/conq/conq/model/GroupPartition" "queue" "Ljava/lang/String;" .null := D200 (Or.inr (hw _ (List.mem_of_getElem? (i := 48) rfl))) (ty := (.object "java/lang/String")) (by decide)
  have f232 : Fld Z h200 b200 "com/example/conq/conq/model/GroupPartition" "group" "Ljava/lang/String;" .null := D200 (Or.inr (hw _ (List.mem_of_getElem? (i := 50) rfl))) (ty := (.object "java/lang/String")) (by decide)
  have f233 : Fld Z h200 b200 "com/example/conq/conq/model/GroupPartition" "partition" "Ljava/lang/String;" .null := D200 (Or.inr (hw _ (List.mem_of_getElem? (i := 52) rfl))) (ty := (.object "java/lang/String")) (by decide)
  have K234 : ∀ t, Steps p.tables e below (T200.setTop (mkF m 374 #[.val (.int p1), .val (.int p2), .val (.int p3), .val (.int p4), .val (.int p5), .val (.int shq), .val (.int shg), .val (.int shp), .val (.int qa0), .val (.int qa1), .val (.int qla), .val (.int qb0), .val (.int qb1), .val (.int qlb), .val (.int ga0), .val (.int ga1), .val (.int gla), .val (.int gb0), .val (.int gb1), .val (.int glb), .val (.int pa0), .val (.int pa1), .val (.int pla), .val (.int pb0), .val (.int pb1), .val (.int plb), .val (.ref sr92), .val (.ref sr100), .val (.ref sr112), .val (.ref sr128), .val (.ref sr148), .val (.ref sr172), .unset, .unset, .unset, .unset] [(.ref sr112), (.ref sr100), (.ref sr92), (.ref b200), (.ref b200)])) t → Steps p.tables e below G t := by
    intro t k
    refine K230 t ?_
    show Steps p.tables e below (T200.setTop (mkF m 367 #[.val (.int p1), .val (.int p2), .val (.int p3), .val (.int p4), .val (.int p5), .val (.int shq), .val (.int shg), .val (.int shp), .val (.int qa0), .val (.int qa1), .val (.int qla), .val (.int qb0), .val (.int qb1), .val (.int qlb), .val (.int ga0), .val (.int ga1), .val (.int gla), .val (.int gb0), .val (.int gb1), .val (.int glb), .val (.int pa0), .val (.int pa1), .val (.int pla), .val (.int pb0), .val (.int pb1), .val (.int plb), .val (.ref sr92), .val (.ref sr100), .val (.ref sr112), .val (.ref sr128), .val (.ref sr148), .val (.ref sr172), .unset, .unset, .unset, .unset] [(.ref b200)])) _
    refine XS.dup X200.here hx rfl (hb hby at_367) rfl rfl ?_
    show Steps p.tables e below (T200.setTop (mkF m 368 #[.val (.int p1), .val (.int p2), .val (.int p3), .val (.int p4), .val (.int p5), .val (.int shq), .val (.int shg), .val (.int shp), .val (.int qa0), .val (.int qa1), .val (.int qla), .val (.int qb0), .val (.int qb1), .val (.int qlb), .val (.int ga0), .val (.int ga1), .val (.int gla), .val (.int gb0), .val (.int gb1), .val (.int glb), .val (.int pa0), .val (.int pa1), .val (.int pla), .val (.int pb0), .val (.int pb1), .val (.int plb), .val (.ref sr92), .val (.ref sr100), .val (.ref sr112), .val (.ref sr128), .val (.ref sr148), .val (.ref sr172), .unset, .unset, .unset, .unset] [(.ref b200), (.ref b200)])) _
    refine XS.aload X200.here hx rfl (hb hby at_368) rfl rfl ?_
    show Steps p.tables e below (T200.setTop (mkF m 370 #[.val (.int p1), .val (.int p2), .val (.int p3), .val (.int p4), .val (.int p5), .val (.int shq), .val (.int shg), .val (.int shp), .val (.int qa0), .val (.int qa1), .val (.int qla), .val (.int qb0), .val (.int qb1), .val (.int qlb), .val (.int ga0), .val (.int ga1), .val (.int gla), .val (.int gb0), .val (.int gb1), .val (.int glb), .val (.int pa0), .val (.int pa1), .val (.int pla), .val (.int pb0), .val (.int pb1), .val (.int plb), .val (.ref sr92), .val (.ref sr100), .val (.ref sr112), .val (.ref sr128), .val (.ref sr148), .val (.ref sr172), .unset, .unset, .unset, .unset] [(.ref sr92), (.ref b200), (.ref b200)])) _
    refine XS.aload X200.here hx rfl (hb hby at_370) rfl rfl ?_
    show Steps p.tables e below (T200.setTop (mkF m 372 #[.val (.int p1), .val (.int p2), .val (.int p3), .val (.int p4), .val (.int p5), .val (.int shq), .val (.int shg), .val (.int shp), .val (.int qa0), .val (.int qa1), .val (.int qla), .val (.int qb0), .val (.int qb1), .val (.int qlb), .val (.int ga0), .val (.int ga1), .val (.int gla), .val (.int gb0), .val (.int gb1), .val (.int glb), .val (.int pa0), .val (.int pa1), .val (.int pla), .val (.int pb0), .val (.int pb1), .val (.int plb), .val (.ref sr92), .val (.ref sr100), .val (.ref sr112), .val (.ref sr128), .val (.ref sr148), .val (.ref sr172), .unset, .unset, .unset, .unset] [(.ref sr100), (.ref sr92), (.ref b200), (.ref b200)])) _
    refine XS.aload X200.here hx rfl (hb hby at_372) rfl rfl ?_
    show Steps p.tables e below (T200.setTop (mkF m 374 #[.val (.int p1), .val (.int p2), .val (.int p3), .val (.int p4), .val (.int p5), .val (.int shq), .val (.int shg), .val (.int shp), .val (.int qa0), .val (.int qa1), .val (.int qla), .val (.int qb0), .val (.int qb1), .val (.int qlb), .val (.int ga0), .val (.int ga1), .val (.int gla), .val (.int gb0), .val (.int gb1), .val (.int glb), .val (.int pa0), .val (.int pa1), .val (.int pla), .val (.int pb0), .val (.int pb1), .val (.int plb), .val (.ref sr92), .val (.ref sr100), .val (.ref sr112), .val (.ref sr128), .val (.ref sr148), .val (.ref sr172), .unset, .unset, .unset, .unset] [(.ref sr112), (.ref sr100), (.ref sr92), (.ref b200), (.ref b200)])) _
    exact k
  obtain ⟨_, _, ⟨T235, L235, kk235, nn235⟩, -, X235, ⟨Lc235, hQ235, lq235, yq235, zq235⟩, st235⟩ := X200.specialBack hx (y := (⟨"com/example/conq/conq/model/GroupPartition", "<init>", "(Ljava/lang/String;Ljava/lang/String;Ljava/lang/String;)V"⟩ : MethodName)) rfl hown (mvT hZ (hw _ (List.mem_of_getElem? (i := 43) rfl))) (mvT hZ (hw _ (List.mem_of_getElem? (i := 44) rfl))) (mvT hZ (hw _ (List.mem_of_getElem? (i := 45) rfl))) (by decide) (backOf (W := 1) (rm9 l Z a0 hw [] b200 sr92 sr100 sr112 h200 n0 Z228 A200 f231 f232 f233 g_b200) hZ (hw _ (List.mem_of_getElem? (i := 45) rfl)) (hw _ (List.mem_of_getElem? (i := 42) rfl)) (by decide) (by decide)) (g := (mkF m 374 #[.val (.int p1), .val (.int p2), .val (.int p3), .val (.int p4), .val (.int p5), .val (.int shq), .val (.int shg), .val (.int shp), .val (.int qa0), .val (.int qa1), .val (.int qla), .val (.int qb0), .val (.int qb1), .val (.int qlb), .val (.int ga0), .val (.int ga1), .val (.int gla), .val (.int gb0), .val (.int gb1), .val (.int glb), .val (.int pa0), .val (.int pa1), .val (.int pla), .val (.int pb0), .val (.int pb1), .val (.int plb), .val (.ref sr92), .val (.ref sr100), .val (.ref sr112), .val (.ref sr128), .val (.ref sr148), .val (.ref sr172), .unset, .unset, .unset, .unset] [(.ref sr112), (.ref sr100), (.ref sr92), (.ref b200), (.ref b200)])) rfl (by rw [hml]; rfl) (Steps.refl _) (a := b200) (argsL := [(.ref sr92), (.ref sr100), (.ref sr112)]) (rest := [(.ref b200)]) (lenOf pd_10 rfl) rfl (by show 2 * 0 + _ ≤ _; exact Nat.le_of_eq rfl) (hb hby at_374) (fun _ _ => ⟨rfl, e200, (by decide : 37 + 0 ≤ _), (by decide : 75 + 0 ≤ _)⟩)
  dsimp only [Pt.U, Pt.locs, Pt.cells, Pt.slots] at X235 lq235 yq235 zq235 st235 hQ235
  subst lq235 yq235 zq235
  obtain ⟨rfl, Nq235, K235, E235', G0235, G1235, G2235⟩ := hQ235
  have N236 := Fr.app N174 Nq235
  have CH237 : CHr Z own_EL s.vm h0 T172.vm T235.heap := CH201.trans (CHr.keep K235 (allS (Safe.exa hZ.alike A200 (by decide) (by decide)) all0) CH201.1)
  have kS238 := Nat.le_trans kS202 K235.1
  have f239 := f203.keep K235 (allS g_b200 all0)
  have f240 := f204.keep K235
  have f241 := f205.keep K235 (ninS ne_sr92_b200 nin0)
  have f242 := f206.keep K235 (ninS ne_sr92_b200 nin0)
  have f243 := f207.keep K235 (ninS ne_sb92_b200 nin0)
  have f244 := f208.keep K235
  have f245 := f209.keep K235 (ninS ne_sr100_b200 nin0)
  have f246 := f210.keep K235 (ninS ne_sr100_b200 nin0)
  have f247 := f211.keep K235 (ninS ne_sb100_b200 nin0)
  have f248 := f212.keep K235
  have f249 := f213.keep K235 (ninS ne_sr112_b200 nin0)
  have f250 := f214.keep K235 (ninS ne_sr112_b200 nin0)
  have f251 := f215.keep K235 (ninS ne_sb112_b200 nin0)
  have f252 := f216.keep K235
  have f253 := f217.keep K235 (ninS ne_sr128_b200 nin0)
  have f254 := f218.keep K235 (ninS ne_sr128_b200 nin0)
  have f255 := f219.keep K235 (ninS ne_sb128_b200 nin0)
  have f256 := f220.keep K235
  have f257 := f221.keep K235 (ninS ne_sr148_b200 nin0)
  have f258 := f222.keep K235 (ninS ne_sr148_b200 nin0)
  have f259 := f223.keep K235 (ninS ne_sb148_b200 nin0)
  have f260 := f224.keep K235
  have f261 := f225.keep K235 (ninS ne_sr172_b200 nin0)
  have f262 := f226.keep K235 (ninS ne_sr172_b200 nin0)
  have f263 := f227.keep K235 (ninS ne_sb172_b200 nin0)
  have f264 := A200.keep K235
  have Z265 : n0 ≤ T235.heap.size := Nat.le_trans Z228 K235.1
  have KP266 : Keep h0 T235.heap [] := KP229.trans K235 (allS (Or.inr sz_b200) all0)
  have K267 : ∀ t, Steps p.tables e below (T235.setTop (mkF m 377 #[.val (.int p1), .val (.int p2), .val (.int p3), .val (.int p4), .val (.int p5), .val (.int shq), .val (.int shg), .val (.int shp), .val (.int qa0), .val (.int qa1), .val (.int qla), .val (.int qb0), .val (.int qb1), .val (.int qlb), .val (.int ga0), .val (.int ga1), .val (.int gla), .val (.int gb0), .val (.int gb1), .val (.int glb), .val (.int pa0), .val (.int pa1), .val (.int pla), .val (.int pb0), .val (.int pb1), .val (.int plb), .val (.ref sr92), .val (.ref sr100), .val (.ref sr112), .val (.ref sr128), .val (.ref sr148), .val (.ref sr172), .unset, .unset, .unset, .unset] [(.ref b200)])) t → Steps p.tables e below G t := fun t k => K234 t (st235.trans k)
  have K268 : ∀ t, Steps p.tables e below (T235.setTop (mkF m 387 #[.val (.int p1), .val (.int p2), .val (.int p3), .val (.int p4), .val (.int p5), .val (.int shq), .val (.int shg), .val (.int shp), .val (.int qa0), .val (.int qa1), .val (.int qla), .val (.int qb0), .val (.int qb1), .val (.int qlb), .val (.int ga0), .val (.int ga1), .val (.int gla), .val (.int gb0), .val (.int gb1), .val (.int glb), .val (.int pa0), .val (.int pa1), .val (.int pla), .val (.int pb0), .val (.int pb1), .val (.int plb), .val (.ref sr92), .val (.ref sr100), .val (.ref sr112), .val (.ref sr128), .val (.ref sr148), .val (.ref sr172), .val (.ref b200), .val (.int (p5 &&& (3 : Int32))), .unset, .unset] [(.int (p5 &&& (3 : Int32)))])) t → Steps p.tables e below G t := by
    intro t k
    refine K267 t ?_
    show Steps p.tables e below (T235.setTop (mkF m 377 #[.val (.int p1), .val (.int p2), .val (.int p3), .val (.int p4), .val (.int p5), .val (.int shq), .val (.int shg), .val (.int shp), .val (.int qa0), .val (.int qa1), .val (.int qla), .val (.int qb0), .val (.int qb1), .val (.int qlb), .val (.int ga0), .val (.int ga1), .val (.int gla), .val (.int gb0), .val (.int gb1), .val (.int glb), .val (.int pa0), .val (.int pa1), .val (.int pla), .val (.int pb0), .val (.int pb1), .val (.int plb), .val (.ref sr92), .val (.ref sr100), .val (.ref sr112), .val (.ref sr128), .val (.ref sr148), .val (.ref sr172), .unset, .unset, .unset, .unset] [(.ref b200)])) _
    refine XS.astore X235.here hx rfl (hb hby at_377) rfl rfl (l' := #[.val (.int p1), .val (.int p2), .val (.int p3), .val (.int p4), .val (.int p5), .val (.int shq), .val (.int shg), .val (.int shp), .val (.int qa0), .val (.int qa1), .val (.int qla), .val (.int qb0), .val (.int qb1), .val (.int qlb), .val (.int ga0), .val (.int ga1), .val (.int gla), .val (.int gb0), .val (.int gb1), .val (.int glb), .val (.int pa0), .val (.int pa1), .val (.int pla), .val (.int pb0), .val (.int pb1), .val (.int plb), .val (.ref sr92), .val (.ref sr100), .val (.ref sr112), .val (.ref sr128), .val (.ref sr148), .val (.ref sr172), .val (.ref b200), .unset, .unset, .unset]) rfl ?_
    show Steps p.tables e below (T235.setTop (mkF m 379 #[.val (.int p1), .val (.int p2), .val (.int p3), .val (.int p4), .val (.int p5), .val (.int shq), .val (.int shg), .val (.int shp), .val (.int qa0), .val (.int qa1), .val (.int qla), .val (.int qb0), .val (.int qb1), .val (.int qlb), .val (.int ga0), .val (.int ga1), .val (.int gla), .val (.int gb0), .val (.int gb1), .val (.int glb), .val (.int pa0), .val (.int pa1), .val (.int pla), .val (.int pb0), .val (.int pb1), .val (.int plb), .val (.ref sr92), .val (.ref sr100), .val (.ref sr112), .val (.ref sr128), .val (.ref sr148), .val (.ref sr172), .val (.ref b200), .unset, .unset, .unset] [])) _
    refine XS.iload X235.here hx rfl (hb hby at_379) rfl ?_
    show Steps p.tables e below (T235.setTop (mkF m 381 #[.val (.int p1), .val (.int p2), .val (.int p3), .val (.int p4), .val (.int p5), .val (.int shq), .val (.int shg), .val (.int shp), .val (.int qa0), .val (.int qa1), .val (.int qla), .val (.int qb0), .val (.int qb1), .val (.int qlb), .val (.int ga0), .val (.int ga1), .val (.int gla), .val (.int gb0), .val (.int gb1), .val (.int glb), .val (.int pa0), .val (.int pa1), .val (.int pla), .val (.int pb0), .val (.int pb1), .val (.int plb), .val (.ref sr92), .val (.ref sr100), .val (.ref sr112), .val (.ref sr128), .val (.ref sr148), .val (.ref sr172), .val (.ref b200), .unset, .unset, .unset] [(.int p5)])) _
    refine XS.iconst X235.here hx rfl (hb hby at_381) ?_
    show Steps p.tables e below (T235.setTop (mkF m 382 #[.val (.int p1), .val (.int p2), .val (.int p3), .val (.int p4), .val (.int p5), .val (.int shq), .val (.int shg), .val (.int shp), .val (.int qa0), .val (.int qa1), .val (.int qla), .val (.int qb0), .val (.int qb1), .val (.int qlb), .val (.int ga0), .val (.int ga1), .val (.int gla), .val (.int gb0), .val (.int gb1), .val (.int glb), .val (.int pa0), .val (.int pa1), .val (.int pla), .val (.int pb0), .val (.int pb1), .val (.int plb), .val (.ref sr92), .val (.ref sr100), .val (.ref sr112), .val (.ref sr128), .val (.ref sr148), .val (.ref sr172), .val (.ref b200), .unset, .unset, .unset] [(.int (3 : Int32)), (.int p5)])) _
    refine XS.iand X235.here hx rfl (hb hby at_382) rfl ?_
    show Steps p.tables e below (T235.setTop (mkF m 383 #[.val (.int p1), .val (.int p2), .val (.int p3), .val (.int p4), .val (.int p5), .val (.int shq), .val (.int shg), .val (.int shp), .val (.int qa0), .val (.int qa1), .val (.int qla), .val (.int qb0), .val (.int qb1), .val (.int qlb), .val (.int ga0), .val (.int ga1), .val (.int gla), .val (.int gb0), .val (.int gb1), .val (.int glb), .val (.int pa0), .val (.int pa1), .val (.int pla), .val (.int pb0), .val (.int pb1), .val (.int plb), .val (.ref sr92), .val (.ref sr100), .val (.ref sr112), .val (.ref sr128), .val (.ref sr148), .val (.ref sr172), .val (.ref b200), .unset, .unset, .unset] [(.int (p5 &&& (3 : Int32)))])) _
    refine XS.istore X235.here hx rfl (hb hby at_383) rfl (l' := #[.val (.int p1), .val (.int p2), .val (.int p3), .val (.int p4), .val (.int p5), .val (.int shq), .val (.int shg), .val (.int shp), .val (.int qa0), .val (.int qa1), .val (.int qla), .val (.int qb0), .val (.int qb1), .val (.int qlb), .val (.int ga0), .val (.int ga1), .val (.int gla), .val (.int gb0), .val (.int gb1), .val (.int glb), .val (.int pa0), .val (.int pa1), .val (.int pla), .val (.int pb0), .val (.int pb1), .val (.int plb), .val (.ref sr92), .val (.ref sr100), .val (.ref sr112), .val (.ref sr128), .val (.ref sr148), .val (.ref sr172), .val (.ref b200), .val (.int (p5 &&& (3 : Int32))), .unset, .unset]) rfl ?_
    show Steps p.tables e below (T235.setTop (mkF m 385 #[.val (.int p1), .val (.int p2), .val (.int p3), .val (.int p4), .val (.int p5), .val (.int shq), .val (.int shg), .val (.int shp), .val (.int qa0), .val (.int qa1), .val (.int qla), .val (.int qb0), .val (.int qb1), .val (.int qlb), .val (.int ga0), .val (.int ga1), .val (.int gla), .val (.int gb0), .val (.int gb1), .val (.int glb), .val (.int pa0), .val (.int pa1), .val (.int pla), .val (.int pb0), .val (.int pb1), .val (.int plb), .val (.ref sr92), .val (.ref sr100), .val (.ref sr112), .val (.ref sr128), .val (.ref sr148), .val (.ref sr172), .val (.ref b200), .val (.int (p5 &&& (3 : Int32))), .unset, .unset] [])) _
    refine XS.iload X235.here hx rfl (hb hby at_385) rfl ?_
    show Steps p.tables e below (T235.setTop (mkF m 387 #[.val (.int p1), .val (.int p2), .val (.int p3), .val (.int p4), .val (.int p5), .val (.int shq), .val (.int shg), .val (.int shp), .val (.int qa0), .val (.int qa1), .val (.int qla), .val (.int qb0), .val (.int qb1), .val (.int qlb), .val (.int ga0), .val (.int ga1), .val (.int gla), .val (.int gb0), .val (.int gb1), .val (.int glb), .val (.int pa0), .val (.int pa1), .val (.int pla), .val (.int pb0), .val (.int pb1), .val (.int plb), .val (.ref sr92), .val (.ref sr100), .val (.ref sr112), .val (.ref sr128), .val (.ref sr148), .val (.ref sr172), .val (.ref b200), .val (.int (p5 &&& (3 : Int32))), .unset, .unset] [(.int (p5 &&& (3 : Int32)))])) _
    exact k
  by_cases hc269 : (p5 &&& (3 : Int32)) = (0 : Int32)
  · have K270 : ∀ t, Steps p.tables e below (T235.setTop (mkF m 390 #[.val (.int p1), .val (.int p2), .val (.int p3), .val (.int p4), .val (.int p5), .val (.int shq), .val (.int shg), .val (.int shp), .val (.int qa0), .val (.int qa1), .val (.int qla), .val (.int qb0), .val (.int qb1), .val (.int qlb), .val (.int ga0), .val (.int ga1), .val (.int gla), .val (.int gb0), .val (.int gb1), .val (.int glb), .val (.int pa0), .val (.int pa1), .val (.int pla), .val (.int pb0), .val (.int pb1), .val (.int plb), .val (.ref sr92), .val (.ref sr100), .val (.ref sr112), .val (.ref sr128), .val (.ref sr148), .val (.ref sr172), .val (.ref b200), .val (.int (p5 &&& (3 : Int32))), .unset, .unset] [])) t → Steps p.tables e below G t := by
      intro t k
      refine K268 t ?_
      show Steps p.tables e below (T235.setTop (mkF m 387 #[.val (.int p1), .val (.int p2), .val (.int p3), .val (.int p4), .val (.int p5), .val (.int shq), .val (.int shg), .val (.int shp), .val (.int qa0), .val (.int qa1), .val (.int qla), .val (.int qb0), .val (.int qb1), .val (.int qlb), .val (.int ga0), .val (.int ga1), .val (.int gla), .val (.int gb0), .val (.int gb1), .val (.int glb), .val (.int pa0), .val (.int pa1), .val (.int pla), .val (.int pb0), .val (.int pb1), .val (.int plb), .val (.ref sr92), .val (.ref sr100), .val (.ref sr112), .val (.ref sr128), .val (.ref sr148), .val (.ref sr172), .val (.ref b200), .val (.int (p5 &&& (3 : Int32))), .unset, .unset] [(.int (p5 &&& (3 : Int32)))])) _
      refine XS.ifNo X235.here hx rfl (hb hby at_387) rfl ((if0 _ _).trans (teq hc269).2) ?_
      show Steps p.tables e below (T235.setTop (mkF m 390 #[.val (.int p1), .val (.int p2), .val (.int p3), .val (.int p4), .val (.int p5), .val (.int shq), .val (.int shg), .val (.int shp), .val (.int qa0), .val (.int qa1), .val (.int qla), .val (.int qb0), .val (.int qb1), .val (.int qlb), .val (.int ga0), .val (.int ga1), .val (.int gla), .val (.int gb0), .val (.int gb1), .val (.int glb), .val (.int pa0), .val (.int pa1), .val (.int pla), .val (.int pb0), .val (.int pb1), .val (.int plb), .val (.ref sr92), .val (.ref sr100), .val (.ref sr112), .val (.ref sr128), .val (.ref sr148), .val (.ref sr172), .val (.ref b200), .val (.int (p5 &&& (3 : Int32))), .unset, .unset] [])) _
      exact k
    obtain ⟨T271, h271, X271, e271, E271, A271, D271, -, st271⟩ := newO X235 hx hZ hown (hw _ (List.mem_of_getElem? (i := 40) rfl)) (hw _ (List.mem_of_getElem? (i := 41) rfl)) (hw _ (List.mem_of_getElem? (i := 42) rfl)) rfl (g := (mkF m 390 #[.val (.int p1), .val (.int p2), .val (.int p3), .val (.int p4), .val (.int p5), .val (.int shq), .val (.int shg), .val (.int shp), .val (.int qa0), .val (.int qa1), .val (.int qla), .val (.int qb0), .val (.int qb1), .val (.int qlb), .val (.int ga0), .val (.int ga1), .val (.int gla), .val (.int gb0), .val (.int gb1), .val (.int glb), .val (.int pa0), .val (.int pa1), .val (.int pla), .val (.int pb0), .val (.int pb1), .val (.int plb), .val (.ref sr92), .val (.ref sr100), .val (.ref sr112), .val (.ref sr128), .val (.ref sr148), .val (.ref sr172), .val (.ref b200), .val (.int (p5 &&& (3 : Int32))), .unset, .unset] [])) rfl (hb hby at_390) (by decide) (by decide)
    obtain ⟨b271, g271⟩ : ∃ z, z = T235.heap.size := ⟨_, rfl⟩
    rw [← g271] at A271 D271 st271
    have ne_sr92_b271 : sr92 ≠ b271 := Nat.ne_of_lt (Nat.lt_of_lt_of_le f240.lt (Nat.le_of_eq g271.symm))
    have ne_sb92_b271 : sb92 ≠ b271 := Nat.ne_of_lt (Nat.lt_of_lt_of_le f243.lt (Nat.le_of_eq g271.symm))
    have ne_sr100_b271 : sr100 ≠ b271 := Nat.ne_of_lt (Nat.lt_of_lt_of_le f244.lt (Nat.le_of_eq g271.symm))
    have ne_sb100_b271 : sb100 ≠ b271 := Nat.ne_of_lt (Nat.lt_of_lt_of_le f247.lt (Nat.le_of_eq g271.symm))
    have ne_sr112_b271 : sr112 ≠ b271 := Nat.ne_of_lt (Nat.lt_of_lt_of_le f248.lt (Nat.le_of_eq g271.symm))
    have ne_sb112_b271 : sb112 ≠ b271 := Nat.ne_of_lt (Nat.lt_of_lt_of_le f251.lt (Nat.le_of_eq g271.symm))
    have ne_sr128_b271 : sr128 ≠ b271 := Nat.ne_of_lt (Nat.lt_of_lt_of_le f252.lt (Nat.le_of_eq g271.symm))
    have ne_sb128_b271 : sb128 ≠ b271 := Nat.ne_of_lt (Nat.lt_of_lt_of_le f255.lt (Nat.le_of_eq g271.symm))
    have ne_sr148_b271 : sr148 ≠ b271 := Nat.ne_of_lt (Nat.lt_of_lt_of_le f256.lt (Nat.le_of_eq g271.symm))
    have ne_sb148_b271 : sb148 ≠ b271 := Nat.ne_of_lt (Nat.lt_of_lt_of_le f259.lt (Nat.le_of_eq g271.symm))
    have ne_sr172_b271 : sr172 ≠ b271 := Nat.ne_of_lt (Nat.lt_of_lt_of_le f260.lt (Nat.le_of_eq g271.symm))
    have ne_sb172_b271 : sb172 ≠ b271 := Nat.ne_of_lt (Nat.lt_of_lt_of_le f263.lt (Nat.le_of_eq g271.symm))
    have ne_b200_b271 : b200 ≠ b271 := Nat.ne_of_lt (Nat.lt_of_lt_of_le E235'.lt (Nat.le_of_eq g271.symm))
    have g_b271 : n0 ≤ b271 := Nat.le_trans Z265 (Nat.le_of_eq g271.symm)
    have sz_b271 : h0.size ≤ b271 := Nat.le_trans KP266.1 (Nat.le_of_eq g271.symm)
    have CH272 : CHr Z own_EL s.vm h0 T172.vm h271 := CH237.trans (CHr.ext E271 CH237.1)
    have kS273 := Nat.le_trans kS238 E271.1
    have f274 := f239.ext E271
    have f275 := f240.ext E271
    have f276 := f241.ext E271
    have f277 := f242.ext E271
    have f278 := f243.ext E271
    have f279 := f244.ext E271
    have f280 := f245.ext E271
    have f281 := f246.ext E271
    have f282 := f247.ext E271
    have f283 := f248.ext E271
    have f284 := f249.ext E271
    have f285 := f250.ext E271
    have f286 := f251.ext E271
    have f287 := f252.ext E271
    have f288 := f253.ext E271
    have f289 := f254.ext E271
    have f290 := f255.ext E271
    have f291 := f256.ext E271
    have f292 := f257.ext E271
    have f293 := f258.ext E271
    have f294 := f259.ext E271
    have f295 := f260.ext E271
    have f296 := f261.ext E271
    have f297 := f262.ext E271
    have f298 := f263.ext E271
    have f299 := E235'.ext E271
    have f300 := G0235.ext E271
    have f301 := G1235.ext E271
    have f302 := G2235.ext E271
    have Z303 : n0 ≤ h271.size := Nat.le_trans Z265 E271.1
    have KP304 : Keep h0 h271 [] := KP266.ext E271
    have K305 : ∀ t, Steps p.tables e below (T271.setTop (mkF m 393 #[.val (.int p1), .val (.int p2), .val (.int p3), .val (.int p4), .val (.int p5), .val (.int shq), .val (.int shg), .val (.int shp), .val (.int qa0), .val (.int qa1), .val (.int qla), .val (.int qb0), .val (.int qb1), .val (.int qlb), .val (.int ga0), .val (.int ga1), .val (.int gla), .val (.int gb0), .val (.int gb1), .val (.int glb), .val (.int pa0), .val (.int pa1), .val (.int pla), .val (.int pb0), .val (.int pb1), .val (.int plb), .val (.ref sr92), .val (.ref sr100), .val (.ref sr112), .val (.ref sr128), .val (.ref sr148), .val (.ref sr172), .val (.ref b200), .val (.int (p5 &&& (3 : Int32))), .unset, .unset] [(.ref b271)])) t → Steps p.tables e below G t := fun t k => K270 t (st271 t k)
    have f306 : Fld Z h271 b271 "com/example/conq/conq/model/GroupPartition" "queue" "Ljava/lang/String;" .null := D271 (Or.inr (hw _ (List.mem_of_getElem? (i := 48) rfl))) (ty := (.object "java/lang/String")) (by decide)
    have f307 : Fld Z h271 b271 "com/example/conq/conq/model/GroupPartition" "group" "Ljava/lang/String;" .null := D271 (Or.inr (hw _ (List.mem_of_getElem? (i := 50) rfl))) (ty := (.object "java/lang/String")) (by decide)
    have f308 : Fld Z h271 b271 "com/example/conq/conq/model/GroupPartition" "partition" "Ljava/lang/String;" .null := D271 (Or.inr (hw _ (List.mem_of_getElem? (i := 52) rfl))) (ty := (.object "java/lang/String")) (by decide)
    have K309 : ∀ t, Steps p.tables e below (T271.setTop (mkF m 400 #[.val (.int p1), .val (.int p2), .val (.int p3), .val (.int p4), .val (.int p5), .val (.int shq), .val (.int shg), .val (.int shp), .val (.int qa0), .val (.int qa1), .val (.int qla), .val (.int qb0), .val (.int qb1), .val (.int qlb), .val (.int ga0), .val (.int ga1), .val (.int gla), .val (.int gb0), .val (.int gb1), .val (.int glb), .val (.int pa0), .val (.int pa1), .val (.int pla), .val (.int pb0), .val (.int pb1), .val (.int plb), .val (.ref sr92), .val (.ref sr100), .val (.ref sr112), .val (.ref sr128), .val (.ref sr148), .val (.ref sr172), .val (.ref b200), .val (.int (p5 &&& (3 : Int32))), .unset, .unset] [(.ref sr172), (.ref sr148), (.ref sr128), (.ref b271), (.ref b271)])) t → Steps p.tables e below G t := by
      intro t k
      refine K305 t ?_
      show Steps p.tables e below (T271.setTop (mkF m 393 #[.val (.int p1), .val (.int p2), .val (.int p3), .val (.int p4), .val (.int p5), .val (.int shq), .val (.int shg), .val (.int shp), .val (.int qa0), .val (.int qa1), .val (.int qla), .val (.int qb0), .val (.int qb1), .val (.int qlb), .val (.int ga0), .val (.int ga1), .val (.int gla), .val (.int gb0), .val (.int gb1), .val (.int glb), .val (.int pa0), .val (.int pa1), .val (.int pla), .val (.int pb0), .val (.int pb1), .val (.int plb), .val (.ref sr92), .val (.ref sr100), .val (.ref sr112), .val (.ref sr128), .val (.ref sr148), .val (.ref sr172), .val (.ref b200), .val (.int (p5 &&& (3 : Int32))), .unset, .unset] [(.ref b271)])) _
      refine XS.dup X271.here hx rfl (hb hby at_393) rfl rfl ?_
      show Steps p.tables e below (T271.setTop (mkF m 394 #[.val (.int p1), .val (.int p2), .val (.int p3), .val (.int p4), .val (.int p5), .val (.int shq), .val (.int shg), .val (.int shp), .val (.int qa0), .val (.int qa1), .val (.int qla), .val (.int qb0), .val (.int qb1), .val (.int qlb), .val (.int ga0), .val (.int ga1), .val (.int gla), .val (.int gb0), .val (.int gb1), .val (.int glb), .val (.int pa0), .val (.int pa1), .val (.int pla), .val (.int pb0), .val (.int pb1), .val (.int plb), .val (.ref sr92), .val (.ref sr100), .val (.ref sr112), .val (.ref sr128), .val (.ref sr148), .val (.ref sr172), .val (.ref b200), .val (.int (p5 &&& (3 : Int32))), .unset, .unset] [(.ref b271), (.ref b271)])) _
      refine XS.aload X271.here hx rfl (hb hby at_394) rfl rfl ?_
      show Steps p.tables e below (T271.setTop (mkF m 396 #[.val (.int p1), .val (.int p2), .val (.int p3), .val (.int p4), .val (.int p5), .val (.int shq), .val (.int shg), .val (.int shp), .val (.int qa0), .val (.int qa1), .val (.int qla), .val (.int qb0), .val (.int qb1), .val (.int qlb), .val (.int ga0), .val (.int ga1), .val (.int gla), .val (.int gb0), .val (.int gb1), .val (.int glb), .val (.int pa0), .val (.int pa1), .val (.int pla), .val (.int pb0), .val (.int pb1), .val (.int plb), .val (.ref sr92), .val (.ref sr100), .val (.ref sr112), .val (.ref sr128), .val (.ref sr148), .val (.ref sr172), .val (.ref b200), .val (.int (p5 &&& (3 : Int32))), .unset, .unset] [(.ref sr128), (.ref b271), (.ref b271)])) _
      refine XS.aload X271.here hx rfl (hb hby at_396) rfl rfl ?_
      show Steps p.tables e below (T271.setTop (mkF m 398 #[.val (.int p1), .val (.int p2), .val (.int p3), .val (.int p4), .val (.int p5), .val (.int shq), .val (.int shg), .val (.int shp), .val (.int qa0), .val (.int qa1), .val (.int qla), .val (.int qb0), .val (.int qb1), .val (.int qlb), .val (.int ga0), .val (.int ga1), .val (.int gla), .val (.int gb0), .val (.int gb1), .val (.int glb), .val (.int pa0), .val (.int pa1), .val (.int pla), .val (.int pb0), .val (.int pb1), .val (.int plb), .val (.ref sr92), .val (.ref sr100), .val (.ref sr112), .val (.ref sr128), .val (.ref sr148), .val (.ref sr172), .val (.ref b200), .val (.int (p5 &&& (3 : Int32))), .unset, .unset] [(.ref sr148), (.ref sr128), (.ref b271), (.ref b271)])) _
      refine XS.aload X271.here hx rfl (hb hby at_398) rfl rfl ?_
      show Steps p.tables e below (T271.setTop (mkF m 400 #[.val (.int p1), .val (.int p2), .val (.int p3), .val (.int p4), .val (.int p5), .val (.int shq), .val (.int shg), .val (.int shp), .val (.int qa0), .val (.int qa1), .val (.int qla), .val (.int qb0), .val (.int qb1), .val (.int qlb), .val (.int ga0), .val (.int ga1), .val (.int gla), .val (.int gb0), .val (.int gb1), .val (.int glb), .val (.int pa0), .val (.int pa1), .val (.int pla), .val (.int pb0), .val (.int pb1), .val (.int plb), .val (.ref sr92), .val (.ref sr100), .val (.ref sr112), .val (.ref sr128), .val (.ref sr148), .val (.ref sr172), .val (.ref b200), .val (.int (p5 &&& (3 : Int32))), .unset, .unset] [(.ref sr172), (.ref sr148), (.ref sr128), (.ref b271), (.ref b271)])) _
      exact k
    obtain ⟨_, _, ⟨T310, L310, kk310, nn310⟩, -, X310, ⟨Lc310, hQ310, lq310, yq310, zq310⟩, st310⟩ := X271.specialBack hx (y := (⟨"com/example/conq/conq/model/GroupPartition", "<init>", "(Ljava/lang/String;Ljava/lang/String;Ljava/lang/String;)V"⟩ : MethodName)) rfl hown (mvT hZ (hw _ (List.mem_of_getElem? (i := 43) rfl))) (mvT hZ (hw _ (List.mem_of_getElem? (i := 44) rfl))) (mvT hZ (hw _ (List.mem_of_getElem? (i := 45) rfl))) (by decide) (backOf (W := 1) (rm9 l Z a0 hw [] b271 sr128 sr148 sr172 h271 n0 Z303 A271 f306 f307 f308 g_b271) hZ (hw _ (List.mem_of_getElem? (i := 45) rfl)) (hw _ (List.mem_of_getElem? (i := 42) rfl)) (by decide) (by decide)) (g := (mkF m 400 #[.val (.int p1), .val (.int p2), .val (.int p3), .val (.int p4), .val (.int p5), .val (.int shq), .val (.int shg), .val (.int shp), .val (.int qa0), .val (.int qa1), .val (.int qla), .val (.int qb0), .val (.int qb1), .val (.int qlb), .val (.int ga0), .val (.int ga1), .val (.int gla), .val (.int gb0), .val (.int gb1), .val (.int glb), .val (.int pa0), .val (.int pa1), .val (.int pla), .val (.int pb0), .val (.int pb1), .val (.int plb), .val (.ref sr92), .val (.ref sr100), .val (.ref sr112), .val (.ref sr128), .val (.ref sr148), .val (.ref sr172), .val (.ref b200), .val (.int (p5 &&& (3 : Int32))), .unset, .unset] [(.ref sr172), (.ref sr148), (.ref sr128), (.ref b271), (.ref b271)])) rfl (by rw [hml]; rfl) (Steps.refl _) (a := b271) (argsL := [(.ref sr128), (.ref sr148), (.ref sr172)]) (rest := [(.ref b271)]) (lenOf pd_10 rfl) rfl (by show 2 * 0 + _ ≤ _; exact Nat.le_of_eq rfl) (hb hby at_400) (fun _ _ => ⟨rfl, e271, (by decide : 38 + 0 ≤ _), (by decide : 78 + 0 ≤ _)⟩)
    dsimp only [Pt.U, Pt.locs, Pt.cells, Pt.slots] at X310 lq310 yq310 zq310 st310 hQ310
    subst lq310 yq310 zq310
    obtain ⟨rfl, Nq310, K310, E310', G0310, G1310, G2310⟩ := hQ310
    have N311 := Fr.app N236 Nq310
    have CH312 : CHr Z own_EL s.vm h0 T172.vm T310.heap := CH272.trans (CHr.keep K310 (allS (Safe.exa hZ.alike A271 (by decide) (by decide)) all0) CH272.1)
    have kS313 := Nat.le_trans kS273 K310.1
    have f314 := f274.keep K310 (allS g_b271 all0)
    have f315 := f275.keep K310
    have f316 := f276.keep K310 (ninS ne_sr92_b271 nin0)
    have f317 := f277.keep K310 (ninS ne_sr92_b271 nin0)
    have f318 := f278.keep K310 (ninS ne_sb92_b271 nin0)
    have f319 := f279.keep K310
    have f320 := f280.keep K310 (ninS ne_sr100_b271 nin0)
    have f321 := f281.keep K310 (ninS ne_sr100_b271 nin0)
    have f322 := f282.keep K310 (ninS ne_sb100_b271 nin0)
    have f323 := f283.keep K310
    have f324 := f284.keep K310 (ninS ne_sr112_b271 nin0)
    have f325 := f285.keep K310 (ninS ne_sr112_b271 nin0)
    have f326 := f286.keep K310 (ninS ne_sb112_b271 nin0)
    have f327 := f287.keep K310
    have f328 := f288.keep K310 (ninS ne_sr128_b271 nin0)
    have f329 := f289.keep K310 (ninS ne_sr128_b271 nin0)
    have f330 := f290.keep K310 (ninS ne_sb128_b271 nin0)
    have f331 := f291.keep K310
    have f332 := f292.keep K310 (ninS ne_sr148_b271 nin0)
    have f333 := f293.keep K310 (ninS ne_sr148_b271 nin0)
    have f334 := f294.keep K310 (ninS ne_sb148_b271 nin0)
    have f335 := f295.keep K310
    have f336 := f296.keep K310 (ninS ne_sr172_b271 nin0)
    have f337 := f297.keep K310 (ninS ne_sr172_b271 nin0)
    have f338 := f298.keep K310 (ninS ne_sb172_b271 nin0)
    have f339 := f299.keep K310
    have f340 := f300.keep K310 (ninS ne_b200_b271 nin0)
    have f341 := f301.keep K310 (ninS ne_b200_b271 nin0)
    have f342 := f302.keep K310 (ninS ne_b200_b271 nin0)
    have f343 := A271.keep K310
    have Z344 : n0 ≤ T310.heap.size := Nat.le_trans Z303 K310.1
    have KP345 : Keep h0 T310.heap [] := KP304.trans K310 (allS (Or.inr sz_b271) all0)
    have K346 : ∀ t, Steps p.tables e below (T310.setTop (mkF m 403 #[.val (.int p1), .val (.int p2), .val (.int p3), .val (.int p4), .val (.int p5), .val (.int shq), .val (.int shg), .val (.int shp), .val (.int qa0), .val (.int qa1), .val (.int qla), .val (.int qb0), .val (.int qb1), .val (.int qlb), .val (.int ga0), .val (.int ga1), .val (.int gla), .val (.int gb0), .val (.int gb1), .val (.int glb), .val (.int pa0), .val (.int pa1), .val (.int pla), .val (.int pb0), .val (.int pb1), .val (.int plb), .val (.ref sr92), .val (.ref sr100), .val (.ref sr112), .val (.ref sr128), .val (.ref sr148), .val (.ref sr172), .val (.ref b200), .val (.int (p5 &&& (3 : Int32))), .unset, .unset] [(.ref b271)])) t → Steps p.tables e below G t := fun t k => K309 t (st310.trans k)
    have K347 : ∀ t, Steps p.tables e below (T310.setTop (mkF m 417 #[.val (.int p1), .val (.int p2), .val (.int p3), .val (.int p4), .val (.int p5), .val (.int shq), .val (.int shg), .val (.int shp), .val (.int qa0), .val (.int qa1), .val (.int qla), .val (.int qb0), .val (.int qb1), .val (.int qlb), .val (.int ga0), .val (.int ga1), .val (.int gla), .val (.int gb0), .val (.int gb1), .val (.int glb), .val (.int pa0), .val (.int pa1), .val (.int pla), .val (.int pb0), .val (.int pb1), .val (.int plb), .val (.ref sr92), .val (.ref sr100), .val (.ref sr112), .val (.ref sr128), .val (.ref sr148), .val (.ref sr172), .val (.ref b200), .val (.int (p5 &&& (3 : Int32))), .val (.ref b271), .unset] [(.int qlb), (.int qb1), (.int qb0), (.int qla), (.int qa1), (.int qa0)])) t → Steps p.tables e below G t := by
      intro t k
      refine K346 t ?_
      show Steps p.tables e below (T310.setTop (mkF m 403 #[.val (.int p1), .val (.int p2), .val (.int p3), .val (.int p4), .val (.int p5), .val (.int shq), .val (.int shg), .val (.int shp), .val (.int qa0), .val (.int qa1), .val (.int qla), .val (.int qb0), .val (.int qb1), .val (.int qlb), .val (.int ga0), .val (.int ga1), .val (.int gla), .val (.int gb0), .val (.int gb1), .val (.int glb), .val (.int pa0), .val (.int pa1), .val (.int pla), .val (.int pb0), .val (.int pb1), .val (.int plb), .val (.ref sr92), .val (.ref sr100), .val (.ref sr112), .val (.ref sr128), .val (.ref sr148), .val (.ref sr172), .val (.ref b200), .val (.int (p5 &&& (3 : Int32))), .unset, .unset] [(.ref b271)])) _
      refine XS.astore X310.here hx rfl (hb hby at_403) rfl rfl (l' := #[.val (.int p1), .val (.int p2), .val (.int p3), .val (.int p4), .val (.int p5), .val (.int shq), .val (.int shg), .val (.int shp), .val (.int qa0), .val (.int qa1), .val (.int qla), .val (.int qb0), .val (.int qb1), .val (.int qlb), .val (.int ga0), .val (.int ga1), .val (.int gla), .val (.int gb0), .val (.int gb1), .val (.int glb), .val (.int pa0), .val (.int pa1), .val (.int pla), .val (.int pb0), .val (.int pb1), .val (.int plb), .val (.ref sr92), .val (.ref sr100), .val (.ref sr112), .val (.ref sr128), .val (.ref sr148), .val (.ref sr172), .val (.ref b200), .val (.int (p5 &&& (3 : Int32))), .val (.ref b271), .unset]) rfl ?_
      show Steps p.tables e below (T310.setTop (mkF m 405 #[.val (.int p1), .val (.int p2), .val (.int p3), .val (.int p4), .val (.int p5), .val (.int shq), .val (.int shg), .val (.int shp), .val (.int qa0), .val (.int qa1), .val (.int qla), .val (.int qb0), .val (.int qb1), .val (.int qlb), .val (.int ga0), .val (.int ga1), .val (.int gla), .val (.int gb0), .val (.int gb1), .val (.int glb), .val (.int pa0), .val (.int pa1), .val (.int pla), .val (.int pb0), .val (.int pb1), .val (.int plb), .val (.ref sr92), .val (.ref sr100), .val (.ref sr112), .val (.ref sr128), .val (.ref sr148), .val (.ref sr172), .val (.ref b200), .val (.int (p5 &&& (3 : Int32))), .val (.ref b271), .unset] [])) _
      refine XS.iload X310.here hx rfl (hb hby at_405) rfl ?_
      show Steps p.tables e below (T310.setTop (mkF m 407 #[.val (.int p1), .val (.int p2), .val (.int p3), .val (.int p4), .val (.int p5), .val (.int shq), .val (.int shg), .val (.int shp), .val (.int qa0), .val (.int qa1), .val (.int qla), .val (.int qb0), .val (.int qb1), .val (.int qlb), .val (.int ga0), .val (.int ga1), .val (.int gla), .val (.int gb0), .val (.int gb1), .val (.int glb), .val (.int pa0), .val (.int pa1), .val (.int pla), .val (.int pb0), .val (.int pb1), .val (.int plb), .val (.ref sr92), .val (.ref sr100), .val (.ref sr112), .val (.ref sr128), .val (.ref sr148), .val (.ref sr172), .val (.ref b200), .val (.int (p5 &&& (3 : Int32))), .val (.ref b271), .unset] [(.int qa0)])) _
      refine XS.iload X310.here hx rfl (hb hby at_407) rfl ?_
      show Steps p.tables e below (T310.setTop (mkF m 409 #[.val (.int p1), .val (.int p2), .val (.int p3), .val (.int p4), .val (.int p5), .val (.int shq), .val (.int shg), .val (.int shp), .val (.int qa0), .val (.int qa1), .val (.int qla), .val (.int qb0), .val (.int qb1), .val (.int qlb), .val (.int ga0), .val (.int ga1), .val (.int gla), .val (.int gb0), .val (.int gb1), .val (.int glb), .val (.int pa0), .val (.int pa1), .val (.int pla), .val (.int pb0), .val (.int pb1), .val (.int plb), .val (.ref sr92), .val (.ref sr100), .val (.ref sr112), .val (.ref sr128), .val (.ref sr148), .val (.ref sr172), .val (.ref b200), .val (.int (p5 &&& (3 : Int32))), .val (.ref b271), .unset] [(.int qa1), (.int qa0)])) _
      refine XS.iload X310.here hx rfl (hb hby at_409) rfl ?_
      show Steps p.tables e below (T310.setTop (mkF m 411 #[.val (.int p1), .val (.int p2), .val (.int p3), .val (.int p4), .val (.int p5), .val (.int shq), .val (.int shg), .val (.int shp), .val (.int qa0), .val (.int qa1), .val (.int qla), .val (.int qb0), .val (.int qb1), .val (.int qlb), .val (.int ga0), .val (.int ga1), .val (.int gla), .val (.int gb0), .val (.int gb1), .val (.int glb), .val (.int pa0), .val (.int pa1), .val (.int pla), .val (.int pb0), .val (.int pb1), .val (.int plb), .val (.ref sr92), .val (.ref sr100), .val (.ref sr112), .val (.ref sr128), .val (.ref sr148), .val (.ref sr172), .val (.ref b200), .val (.int (p5 &&& (3 : Int32))), .val (.ref b271), .unset] [(.int qla), (.int qa1), (.int qa0)])) _
      refine XS.iload X310.here hx rfl (hb hby at_411) rfl ?_
      show Steps p.tables e below (T310.setTop (mkF m 413 #[.val (.int p1), .val (.int p2), .val (.int p3), .val (.int p4), .val (.int p5), .val (.int shq), .val (.int shg), .val (.int shp), .val (.int qa0), .val (.int qa1), .val (.int qla), .val (.int qb0), .val (.int qb1), .val (.int qlb), .val (.int ga0), .val (.int ga1), .val (.int gla), .val (.int gb0), .val (.int gb1), .val (.int glb), .val (.int pa0), .val (.int pa1), .val (.int pla), .val (.int pb0), .val (.int pb1), .val (.int plb), .val (.ref sr92), .val (.ref sr100), .val (.ref sr112), .val (.ref sr128), .val (.ref sr148), .val (.ref sr172), .val (.ref b200), .val (.int (p5 &&& (3 : Int32))), .val (.ref b271), .unset] [(.int qb0), (.int qla), (.int qa1), (.int qa0)])) _
      refine XS.iload X310.here hx rfl (hb hby at_413) rfl ?_
      show Steps p.tables e below (T310.setTop (mkF m 415 #[.val (.int p1), .val (.int p2), .val (.int p3), .val (.int p4), .val (.int p5), .val (.int shq), .val (.int shg), .val (.int shp), .val (.int qa0), .val (.int qa1), .val (.int qla), .val (.int qb0), .val (.int qb1), .val (.int qlb), .val (.int ga0), .val (.int ga1), .val (.int gla), .val (.int gb0), .val (.int gb1), .val (.int glb), .val (.int pa0), .val (.int pa1), .val (.int pla), .val (.int pb0), .val (.int pb1), .val (.int plb), .val (.ref sr92), .val (.ref sr100), .val (.ref sr112), .val (.ref sr128), .val (.ref sr148), .val (.ref sr172), .val (.ref b200), .val (.int (p5 &&& (3 : Int32))), .val (.ref b271), .unset] [(.int qb1), (.int qb0), (.int qla), (.int qa1), (.int qa0)])) _
      refine XS.iload X310.here hx rfl (hb hby at_415) rfl ?_
      show Steps p.tables e below (T310.setTop (mkF m 417 #[.val (.int p1), .val (.int p2), .val (.int p3), .val (.int p4), .val (.int p5), .val (.int shq), .val (.int shg), .val (.int shp), .val (.int qa0), .val (.int qa1), .val (.int qla), .val (.int qb0), .val (.int qb1), .val (.int qlb), .val (.int ga0), .val (.int ga1), .val (.int gla), .val (.int gb0), .val (.int gb1), .val (.int glb), .val (.int pa0), .val (.int pa1), .val (.int pla), .val (.int pb0), .val (.int pb1), .val (.int plb), .val (.ref sr92), .val (.ref sr100), .val (.ref sr112), .val (.ref sr128), .val (.ref sr148), .val (.ref sr172), .val (.ref b200), .val (.int (p5 &&& (3 : Int32))), .val (.ref b271), .unset] [(.int qlb), (.int qb1), (.int qb0), (.int qla), (.int qa1), (.int qa0)])) _
      exact k
    obtain ⟨_, _, ⟨T348, L348, kk348, nn348⟩, -, X348, ⟨Lc348, hQ348, lq348, yq348, zq348⟩, st348⟩ := Jvm.LawKit.callS X310 hx (y := (⟨"com/example/conq/conq/model/GroupPartitionEqualsPinLaw", "same", "(IIIIII)Z"⟩ : MethodName)) hown (mvT hZ (hw _ (List.mem_of_getElem? (i := 53) rfl))) (mvT hZ (hw _ (List.mem_of_getElem? (i := 54) rfl))) (mvT hZ (hw _ (List.mem_of_getElem? (i := 2) rfl))) (mvT hZ (hw _ (List.mem_of_getElem? (i := 55) rfl))) (by decide) (backOf (W := 0) (rm10 l Z a0 hw [] qa0 qa1 qla qb0 qb1 qlb T310.heap n0 Z344 ) hZ (hw _ (List.mem_of_getElem? (i := 55) rfl)) (hw _ (List.mem_of_getElem? (i := 2) rfl)) (by decide) (by decide)) (g := (mkF m 417 #[.val (.int p1), .val (.int p2), .val (.int p3), .val (.int p4), .val (.int p5), .val (.int shq), .val (.int shg), .val (.int shp), .val (.int qa0), .val (.int qa1), .val (.int qla), .val (.int qb0), .val (.int qb1), .val (.int qlb), .val (.int ga0), .val (.int ga1), .val (.int gla), .val (.int gb0), .val (.int gb1), .val (.int glb), .val (.int pa0), .val (.int pa1), .val (.int pla), .val (.int pb0), .val (.int pb1), .val (.int plb), .val (.ref sr92), .val (.ref sr100), .val (.ref sr112), .val (.ref sr128), .val (.ref sr148), .val (.ref sr172), .val (.ref b200), .val (.int (p5 &&& (3 : Int32))), .val (.ref b271), .unset] [(.int qlb), (.int qb1), (.int qb0), (.int qla), (.int qa1), (.int qa0)])) rfl (by rw [hml]; rfl) (argsL := [(.int qa0), (.int qa1), (.int qla), (.int qb0), (.int qb1), (.int qlb)]) (rest := []) (lenOf pd_11 rfl) rfl (by show 2 * 0 + _ ≤ _; exact Nat.le_of_eq rfl) (hb hby at_417) (fun _ _ => ⟨rfl, rfl, (by decide : 38 + 0 ≤ _), (by decide : 78 + 0 ≤ _)⟩)
    dsimp only [Pt.U, Pt.locs, Pt.cells, Pt.slots] at X348 lq348 yq348 zq348 st348 hQ348
    subst lq348 yq348 zq348
    obtain ⟨rfl, Nq348, e348⟩ := hQ348
    have N349 := Fr.app N311 Nq348
    have K350 : ∀ t, Steps p.tables e below (T348.setTop (mkF m 420 #[.val (.int p1), .val (.int p2), .val (.int p3), .val (.int p4), .val (.int p5), .val (.int shq), .val (.int shg), .val (.int shp), .val (.int qa0), .val (.int qa1), .val (.int qla), .val (.int qb0), .val (.int qb1), .val (.int qlb), .val (.int ga0), .val (.int ga1), .val (.int gla), .val (.int gb0), .val (.int gb1), .val (.int glb), .val (.int pa0), .val (.int pa1), .val (.int pla), .val (.int pb0), .val (.int pb1), .val (.int plb), .val (.ref sr92), .val (.ref sr100), .val (.ref sr112), .val (.ref sr128), .val (.ref sr148), .val (.ref sr172), .val (.ref b200), .val (.int (p5 &&& (3 : Int32))), .val (.ref b271), .unset] [(.int (own_sm qa0 qa1 qla qb0 qb1 qlb))])) t → Steps p.tables e below G t := fun t k => K347 t (st348 _ k)
    by_cases hc351 : (own_sm qa0 qa1 qla qb0 qb1 qlb) = (0 : Int32)
    · have K352 : ∀ t, Steps p.tables e below (T348.setTop (mkF m 470 #[.val (.int p1), .val (.int p2), .val (.int p3), .val (.int p4), .val (.int p5), .val (.int shq), .val (.int shg), .val (.int shp), .val (.int qa0), .val (.int qa1), .val (.int qla), .val (.int qb0), .val (.int qb1), .val (.int qlb), .val (.int ga0), .val (.int ga1), .val (.int gla), .val (.int gb0), .val (.int gb1), .val (.int glb), .val (.int pa0), .val (.int pa1), .val (.int pla), .val (.int pb0), .val (.int pb1), .val (.int plb), .val (.ref sr92), .val (.ref sr100), .val (.ref sr112), .val (.ref sr128), .val (.ref sr148), .val (.ref sr172), .val (.ref b200), .val (.int (p5 &&& (3 : Int32))), .val (.ref b271), .val (.int (0 : Int32))] [(.ref b271), (.ref b200)])) t → Steps p.tables e below G t := by
        intro t k
        refine K350 t ?_
        show Steps p.tables e below (T348.setTop (mkF m 420 #[.val (.int p1), .val (.int p2), .val (.int p3), .val (.int p4), .val (.int p5), .val (.int shq), .val (.int shg), .val (.int shp), .val (.int qa0), .val (.int qa1), .val (.int qla), .val (.int qb0), .val (.int qb1), .val (.int qlb), .val (.int ga0), .val (.int ga1), .val (.int gla), .val (.int gb0), .val (.int gb1), .val (.int glb), .val (.int pa0), .val (.int pa1), .val (.int pla), .val (.int pb0), .val (.int pb1), .val (.int plb), .val (.ref sr92), .val (.ref sr100), .val (.ref sr112), .val (.ref sr128), .val (.ref sr148), .val (.ref sr172), .val (.ref b200), .val (.int (p5 &&& (3 : Int32))), .val (.ref b271), .unset] [(.int (own_sm qa0 qa1 qla qb0 qb1 qlb))])) _
        refine XS.ifYes X348.here hx rfl (pc0 := 420) (pc' := 463) rfl (hb hby at_420) rfl ((if0 _ _).trans (teq hc351).1) (by decide) (by decide) ?_
        show Steps p.tables e below (T348.setTop (mkF m 463 #[.val (.int p1), .val (.int p2), .val (.int p3), .val (.int p4), .val (.int p5), .val (.int shq), .val (.int shg), .val (.int shp), .val (.int qa0), .val (.int qa1), .val (.int qla), .val (.int qb0), .val (.int qb1), .val (.int qlb), .val (.int ga0), .val (.int ga1), .val (.int gla), .val (.int gb0), .val (.int gb1), .val (.int glb), .val (.int pa0), .val (.int pa1), .val (.int pla), .val (.int pb0), .val (.int pb1), .val (.int plb), .val (.ref sr92), .val (.ref sr100), .val (.ref sr112), .val (.ref sr128), .val (.ref sr148), .val (.ref sr172), .val (.ref b200), .val (.int (p5 &&& (3 : Int32))), .val (.ref b271), .unset] [])) _
        refine XS.iconst X348.here hx rfl (hb hby at_463) ?_
        show Steps p.tables e below (T348.setTop (mkF m 464 #[.val (.int p1), .val (.int p2), .val (.int p3), .val (.int p4), .val (.int p5), .val (.int shq), .val (.int shg), .val (.int shp), .val (.int qa0), .val (.int qa1), .val (.int qla), .val (.int qb0), .val (.int qb1), .val (.int qlb), .val (.int ga0), .val (.int ga1), .val (.int gla), .val (.int gb0), .val (.int gb1), .val (.int glb), .val (.int pa0), .val (.int pa1), .val (.int pla), .val (.int pb0), .val (.int pb1), .val (.int plb), .val (.ref sr92), .val (.ref sr100), .val (.ref sr112), .val (.ref sr128), .val (.ref sr148), .val (.ref sr172), .val (.ref b200), .val (.int (p5 &&& (3 : Int32))), .val (.ref b271), .unset] [(.int (0 : Int32))])) _
        refine XS.istore X348.here hx rfl (hb hby at_464) rfl (l' := #[.val (.int p1), .val (.int p2), .val (.int p3), .val (.int p4), .val (.int p5), .val (.int shq), .val (.int shg), .val (.int shp), .val (.int qa0), .val (.int qa1), .val (.int qla), .val (.int qb0), .val (.int qb1), .val (.int qlb), .val (.int ga0), .val (.int ga1), .val (.int gla), .val (.int gb0), .val (.int gb1), .val (.int glb), .val (.int pa0), .val (.int pa1), .val (.int pla), .val (.int pb0), .val (.int pb1), .val (.int plb), .val (.ref sr92), .val (.ref sr100), .val (.ref sr112), .val (.ref sr128), .val (.ref sr148), .val (.ref sr172), .val (.ref b200), .val (.int (p5 &&& (3 : Int32))), .val (.ref b271), .val (.int (0 : Int32))]) rfl ?_
        show Steps p.tables e below (T348.setTop (mkF m 466 #[.val (.int p1), .val (.int p2), .val (.int p3), .val (.int p4), .val (.int p5), .val (.int shq), .val (.int shg), .val (.int shp), .val (.int qa0), .val (.int qa1), .val (.int qla), .val (.int qb0), .val (.int qb1), .val (.int qlb), .val (.int ga0), .val (.int ga1), .val (.int gla), .val (.int gb0), .val (.int gb1), .val (.int glb), .val (.int pa0), .val (.int pa1), .val (.int pla), .val (.int pb0), .val (.int pb1), .val (.int plb), .val (.ref sr92), .val (.ref sr100), .val (.ref sr112), .val (.ref sr128), .val (.ref sr148), .val (.ref sr172), .val (.ref b200), .val (.int (p5 &&& (3 : Int32))), .val (.ref b271), .val (.int (0 : Int32))] [])) _
        refine XS.aload X348.here hx rfl (hb hby at_466) rfl rfl ?_
        show Steps p.tables e below (T348.setTop (mkF m 468 #[.val (.int p1), .val (.int p2), .val (.int p3), .val (.int p4), .val (.int p5), .val (.int shq), .val (.int shg), .val (.int shp), .val (.int qa0), .val (.int qa1), .val (.int qla), .val (.int qb0), .val (.int qb1), .val (.int qlb), .val (.int ga0), .val (.int ga1), .val (.int gla), .val (.int gb0), .val (.int gb1), .val (.int glb), .val (.int pa0), .val (.int pa1), .val (.int pla), .val (.int pb0), .val (.int pb1), .val (.int plb), .val (.ref sr92), .val (.ref sr100), .val (.ref sr112), .val (.ref sr128), .val (.ref sr148), .val (.ref sr172), .val (.ref b200), .val (.int (p5 &&& (3 : Int32))), .val (.ref b271), .val (.int (0 : Int32))] [(.ref b200)])) _
        refine XS.aload X348.here hx rfl (hb hby at_468) rfl rfl ?_
        show Steps p.tables e below (T348.setTop (mkF m 470 #[.val (.int p1), .val (.int p2), .val (.int p3), .val (.int p4), .val (.int p5), .val (.int shq), .val (.int shg), .val (.int shp), .val (.int qa0), .val (.int qa1), .val (.int qla), .val (.int qb0), .val (.int qb1), .val (.int qlb), .val (.int ga0), .val (.int ga1), .val (.int gla), .val (.int gb0), .val (.int gb1), .val (.int glb), .val (.int pa0), .val (.int pa1), .val (.int pla), .val (.int pb0), .val (.int pb1), .val (.int plb), .val (.ref sr92), .val (.ref sr100), .val (.ref sr112), .val (.ref sr128), .val (.ref sr148), .val (.ref sr172), .val (.ref b200), .val (.int (p5 &&& (3 : Int32))), .val (.ref b271), .val (.int (0 : Int32))] [(.ref b271), (.ref b200)])) _
        exact k
      obtain ⟨cq353, kq353, q353a, q353b, q353c⟩ := isOf hZ e348 f339
      obtain ⟨_, _, ⟨T353, L353, kk353, nn353⟩, -, X353, ⟨Lc353, hQ353, lq353, yq353, zq353⟩, st353⟩ := X348.virtualBack hx (y := (⟨"com/example/conq/conq/model/GroupPartition", "equals", "(Ljava/lang/Object;)Z"⟩ : MethodName)) (z := (⟨"com/example/conq/conq/model/GroupPartition", "equals", "(Ljava/lang/Object;)Z"⟩ : MethodName)) hown (mvT hZ (hw _ (List.mem_of_getElem? (i := 56) rfl))) (mvT hZ (hw _ (List.mem_of_getElem? (i := 57) rfl))) (notFace_of_selects (args := #[]) (mvT hZ (hw _ (List.mem_of_getElem? (i := 59) rfl)))) (mvT hZ (hw _ (List.mem_of_getElem? (i := 59) rfl))) (mvT hZ (hw _ (List.mem_of_getElem? (i := 58) rfl))) (by decide) (backOf (W := 0) (rm11_d l Z a0 hw [] b200 b271 sr92 sr128 sb92 sb128 sr100 sr148 sb100 sb148 sr112 sr172 sb112 sb172 sk92 sk128 sk100 sk148 sk112 sk172 sz92 sz128 sz100 sz148 sz112 sz172 sv92 sv128 sv100 sv148 sv112 sv172 cs T310.heap n0 Z344 E310' f340 f341 f342 G0310 G1310 G2310 ⟨f315, f316, f317, f318⟩ ⟨f327, f328, f329, f330⟩ (own_form_len fm92) (own_form_len fm128) (fun q => absurd q ne_sr92_sr128) ⟨f319, f320, f321, f322⟩ ⟨f331, f332, f333, f334⟩ (own_form_len fm100) (own_form_len fm148) (fun q => absurd q ne_sr100_sr148) ⟨f323, f324, f325, f326⟩ ⟨f335, f336, f337, f338⟩ (own_form_len fm112) (own_form_len fm172) (fun q => absurd q ne_sr112_sr172) SC hcs f314) hZ (hw _ (List.mem_of_getElem? (i := 60) rfl)) (hw _ (List.mem_of_getElem? (i := 42) rfl)) (by decide) (by decide)) q353a q353c (g := (mkF m 470 #[.val (.int p1), .val (.int p2), .val (.int p3), .val (.int p4), .val (.int p5), .val (.int shq), .val (.int shg), .val (.int shp), .val (.int qa0), .val (.int qa1), .val (.int qla), .val (.int qb0), .val (.int qb1), .val (.int qlb), .val (.int ga0), .val (.int ga1), .val (.int gla), .val (.int gb0), .val (.int gb1), .val (.int glb), .val (.int pa0), .val (.int pa1), .val (.int pla), .val (.int pb0), .val (.int pb1), .val (.int plb), .val (.ref sr92), .val (.ref sr100), .val (.ref sr112), .val (.ref sr128), .val (.ref sr148), .val (.ref sr172), .val (.ref b200), .val (.int (p5 &&& (3 : Int32))), .val (.ref b271), .val (.int (0 : Int32))] [(.ref b271), (.ref b200)])) rfl (by rw [hml]; rfl) (Steps.refl _) (argsL := [(.ref b271)]) (rest := []) (lenOf pd_7 rfl) rfl (by show 2 * 0 + _ ≤ _; exact Nat.le_of_eq rfl) (hb hby at_470) (fun _ _ => ⟨rfl, e348, (by decide : 38 + 0 ≤ _), (by decide : 78 + 0 ≤ _)⟩)
      dsimp only [Pt.U, Pt.locs, Pt.cells, Pt.slots] at X353 lq353 yq353 zq353 st353 hQ353
      subst lq353 yq353 zq353
      obtain ⟨r353, rfl, Nq353, e353, hr353⟩ := hQ353
      have N354 := Fr.app N349 Nq353
      have K355 : ∀ t, Steps p.tables e below (T353.setTop (mkF m 473 #[.val (.int p1), .val (.int p2), .val (.int p3), .val (.int p4), .val (.int p5), .val (.int shq), .val (.int shg), .val (.int shp), .val (.int qa0), .val (.int qa1), .val (.int qla), .val (.int qb0), .val (.int qb1), .val (.int qlb), .val (.int ga0), .val (.int ga1), .val (.int gla), .val (.int gb0), .val (.int gb1), .val (.int glb), .val (.int pa0), .val (.int pa1), .val (.int pla), .val (.int pb0), .val (.int pb1), .val (.int plb), .val (.ref sr92), .val (.ref sr100), .val (.ref sr112), .val (.ref sr128), .val (.ref sr148), .val (.ref sr172), .val (.ref b200), .val (.int (p5 &&& (3 : Int32))), .val (.ref b271), .val (.int (0 : Int32))] [(.int r353)])) t → Steps p.tables e below G t := fun t k => K352 t (st353.trans k)
      have hfin : r353 = (0 : Int32) := by
        rcases hr353 with ⟨z, y⟩ | ⟨z, y⟩
        · exact absurd ((own_same_iff fm92 fm128 hl_qla hl_qlb hb_qa0 hb_qa1 hb_qb0 hb_qb1).mp y.1) (own_says_no (own_sm_says qa0 qa1 qla qb0 qb1 qlb) hc351)
        · exact z
      have CHt := CH312.trans (CHv.at (s := s) (vm0 := T172.vm) X353 hZ hEL CH312.1)
      obtain ⟨fs, hr, hrun, hended, hEnd⟩ := Jvm.Stand.leaveW (s := s) (vm₁ := T172.vm) X353 hS172 (by rw [e353]; exact kS313) (v := some (.int (1 : Int32))) (fun h => by rw [Bd.returns] at h; cases h)
      have KF := K355
      rw [hG] at KF
      refine ⟨_, _, KF _ ?_, hrun, hended, _, _, rfl, ?_, (by show CHr Z own_EL s.vm s.heap T353.vm T353.heap; rw [hh, e353]; exact CHt), hEnd.1, hEnd.2.1, hEnd.2.2.1, hEnd.2.2.2.mono (by decide) (by decide)⟩
      · show Steps p.tables e below (T353.setTop (mkF m 473 #[.val (.int p1), .val (.int p2), .val (.int p3), .val (.int p4), .val (.int p5), .val (.int shq), .val (.int shg), .val (.int shp), .val (.int qa0), .val (.int qa1), .val (.int qla), .val (.int qb0), .val (.int qb1), .val (.int qlb), .val (.int ga0), .val (.int ga1), .val (.int gla), .val (.int gb0), .val (.int gb1), .val (.int glb), .val (.int pa0), .val (.int pa1), .val (.int pla), .val (.int pb0), .val (.int pb1), .val (.int plb), .val (.ref sr92), .val (.ref sr100), .val (.ref sr112), .val (.ref sr128), .val (.ref sr148), .val (.ref sr172), .val (.ref b200), .val (.int (p5 &&& (3 : Int32))), .val (.ref b271), .val (.int (0 : Int32))] [(.int r353)])) _
        refine XS.iload X353.here hx rfl (hb hby at_473) rfl ?_
        show Steps p.tables e below (T353.setTop (mkF m 475 #[.val (.int p1), .val (.int p2), .val (.int p3), .val (.int p4), .val (.int p5), .val (.int shq), .val (.int shg), .val (.int shp), .val (.int qa0), .val (.int qa1), .val (.int qla), .val (.int qb0), .val (.int qb1), .val (.int qlb), .val (.int ga0), .val (.int ga1), .val (.int gla), .val (.int gb0), .val (.int gb1), .val (.int glb), .val (.int pa0), .val (.int pa1), .val (.int pla), .val (.int pb0), .val (.int pb1), .val (.int plb), .val (.ref sr92), .val (.ref sr100), .val (.ref sr112), .val (.ref sr128), .val (.ref sr148), .val (.ref sr172), .val (.ref b200), .val (.int (p5 &&& (3 : Int32))), .val (.ref b271), .val (.int (0 : Int32))] [(.int (0 : Int32)), (.int r353)])) _
        refine XS.icmpNo X353.here hx rfl (hb hby at_475) rfl (teq hfin).2 ?_
        show Steps p.tables e below (T353.setTop (mkF m 478 #[.val (.int p1), .val (.int p2), .val (.int p3), .val (.int p4), .val (.int p5), .val (.int shq), .val (.int shg), .val (.int shp), .val (.int qa0), .val (.int qa1), .val (.int qla), .val (.int qb0), .val (.int qb1), .val (.int qlb), .val (.int ga0), .val (.int ga1), .val (.int gla), .val (.int gb0), .val (.int gb1), .val (.int glb), .val (.int pa0), .val (.int pa1), .val (.int pla), .val (.int pb0), .val (.int pb1), .val (.int plb), .val (.ref sr92), .val (.ref sr100), .val (.ref sr112), .val (.ref sr128), .val (.ref sr148), .val (.ref sr172), .val (.ref b200), .val (.int (p5 &&& (3 : Int32))), .val (.ref b271), .val (.int (0 : Int32))] [])) _
        refine XS.iconst X353.here hx rfl (hb hby at_478) ?_
        show Steps p.tables e below (T353.setTop (mkF m 479 #[.val (.int p1), .val (.int p2), .val (.int p3), .val (.int p4), .val (.int p5), .val (.int shq), .val (.int shg), .val (.int shp), .val (.int qa0), .val (.int qa1), .val (.int qla), .val (.int qb0), .val (.int qb1), .val (.int qlb), .val (.int ga0), .val (.int ga1), .val (.int gla), .val (.int gb0), .val (.int gb1), .val (.int glb), .val (.int pa0), .val (.int pa1), .val (.int pla), .val (.int pb0), .val (.int pb1), .val (.int plb), .val (.ref sr92), .val (.ref sr100), .val (.ref sr112), .val (.ref sr128), .val (.ref sr148), .val (.ref sr172), .val (.ref b200), .val (.int (p5 &&& (3 : Int32))), .val (.ref b271), .val (.int (0 : Int32))] [(.int (1 : Int32))])) _
        refine XS.goto X353.here hx rfl (pc0 := 479) (pc' := 483) rfl (hb hby at_479) (by decide) (by decide) ?_
        show Steps p.tables e below (T353.setTop (mkF m 483 #[.val (.int p1), .val (.int p2), .val (.int p3), .val (.int p4), .val (.int p5), .val (.int shq), .val (.int shg), .val (.int shp), .val (.int qa0), .val (.int qa1), .val (.int qla), .val (.int qb0), .val (.int qb1), .val (.int qlb), .val (.int ga0), .val (.int ga1), .val (.int gla), .val (.int gb0), .val (.int gb1), .val (.int glb), .val (.int pa0), .val (.int pa1), .val (.int pla), .val (.int pb0), .val (.int pb1), .val (.int plb), .val (.ref sr92), .val (.ref sr100), .val (.ref sr112), .val (.ref sr128), .val (.ref sr148), .val (.ref sr172), .val (.ref b200), .val (.int (p5 &&& (3 : Int32))), .val (.ref b271), .val (.int (0 : Int32))] [(.int (1 : Int32))])) _
        exact retN X353 hx (t := .boolean) Bd.returns (by simp) (hb hby at_483) hr
      · show Q0 n0 _ T353.heap _
        rw [e353]
        exact ⟨rfl, N354⟩
    · have K356 : ∀ t, Steps p.tables e below (T348.setTop (mkF m 435 #[.val (.int p1), .val (.int p2), .val (.int p3), .val (.int p4), .val (.int p5), .val (.int shq), .val (.int shg), .val (.int shp), .val (.int qa0), .val (.int qa1), .val (.int qla), .val (.int qb0), .val (.int qb1), .val (.int qlb), .val (.int ga0), .val (.int ga1), .val (.int gla), .val (.int gb0), .val (.int gb1), .val (.int glb), .val (.int pa0), .val (.int pa1), .val (.int pla), .val (.int pb0), .val (.int pb1), .val (.int plb), .val (.ref sr92), .val (.ref sr100), .val (.ref sr112), .val (.ref sr128), .val (.ref sr148), .val (.ref sr172), .val (.ref b200), .val (.int (p5 &&& (3 : Int32))), .val (.ref b271), .unset] [(.int glb), (.int gb1), (.int gb0), (.int gla), (.int ga1), (.int ga0)])) t → Steps p.tables e below G t := by
        intro t k
        refine K350 t ?_
        show Steps p.tables e below (T348.setTop (mkF m 420 #[.val (.int p1), .val (.int p2), .val (.int p3), .val (.int p4), .val (.int p5), .val (.int shq), .val (.int shg), .val (.int shp), .val (.int qa0), .val (.int qa1), .val (.int qla), .val (.int qb0), .val (.int qb1), .val (.int qlb), .val (.int ga0), .val (.int ga1), .val (.int gla), .val (.int gb0), .val (.int gb1), .val (.int glb), .val (.int pa0), .val (.int pa1), .val (.int pla), .val (.int pb0), .val (.int pb1), .val (.int plb), .val (.ref sr92), .val (.ref sr100), .val (.ref sr112), .val (.ref sr128), .val (.ref sr148), .val (.ref sr172), .val (.ref b200), .val (.int (p5 &&& (3 : Int32))), .val (.ref b271), .unset] [(.int (own_sm qa0 qa1 qla qb0 qb1 qlb))])) _
        refine XS.ifNo X348.here hx rfl (hb hby at_420) rfl ((if0 _ _).trans (feq hc351).1) ?_
        show Steps p.tables e below (T348.setTop (mkF m 423 #[.val (.int p1), .val (.int p2), .val (.int p3), .val (.int p4), .val (.int p5), .val (.int shq), .val (.int shg), .val (.int shp), .val (.int qa0), .val (.int qa1), .val (.int qla), .val (.int qb0), .val (.int qb1), .val (.int qlb), .val (.int ga0), .val (.int ga1), .val (.int gla), .val (.int gb0), .val (.int gb1), .val (.int glb), .val (.int pa0), .val (.int pa1), .val (.int pla), .val (.int pb0), .val (.int pb1), .val (.int plb), .val (.ref sr92), .val (.ref sr100), .val (.ref sr112), .val (.ref sr128), .val (.ref sr148), .val (.ref sr172), .val (.ref b200), .val (.int (p5 &&& (3 : Int32))), .val (.ref b271), .unset] [])) _
        refine XS.iload X348.here hx rfl (hb hby at_423) rfl ?_
        show Steps p.tables e below (T348.setTop (mkF m 425 #[.val (.int p1), .val (.int p2), .val (.int p3), .val (.int p4), .val (.int p5), .val (.int shq), .val (.int shg), .val (.int shp), .val (.int qa0), .val (.int qa1), .val (.int qla), .val (.int qb0), .val (.int qb1), .val (.int qlb), .val (.int ga0), .val (.int ga1), .val (.int gla), .val (.int gb0), .val (.int gb1), .val (.int glb), .val (.int pa0), .val (.int pa1), .val (.int pla), .val (.int pb0), .val (.int pb1), .val (.int plb), .val (.ref sr92), .val (.ref sr100), .val (.ref sr112), .val (.ref sr128), .val (.ref sr148), .val (.ref sr172), .val (.ref b200), .val (.int (p5 &&& (3 : Int32))), .val (.ref b271), .unset] [(.int ga0)])) _
        refine XS.iload X348.here hx rfl (hb hby at_425) rfl ?_
        show Steps p.tables e below (T348.setTop (mkF m 427 #[.val (.int p1), .val (.int p2), .val (.int p3), .val (.int p4), .val (.int p5), .val (.int shq), .val (.int shg), .val (.int shp), .val (.int qa0), .val (.int qa1), .val (.int qla), .val (.int qb0), .val (.int qb1), .val (.int qlb), .val (.int ga0), .val (.int ga1), .val (.int gla), .val (.int gb0), .val (.int gb1), .val (.int glb), .val (.int pa0), .val (.int pa1), .val (.int pla), .val (.int pb0), .val (.int pb1), .val (.int plb), .val (.ref sr92), .val (.ref sr100), .val (.ref sr112), .val (.ref sr128), .val (.ref sr148), .val (.ref sr172), .val (.ref b200), .val (.int (p5 &&& (3 : Int32))), .val (.ref b271), .unset] [(.int ga1), (.int ga0)])) _
        refine XS.iload X348.here hx rfl (hb hby at_427) rfl ?_
        show Steps p.tables e below (T348.setTop (mkF m 429 #[.val (.int p1), .val (.int p2), .val (.int p3), .val (.int p4), .val (.int p5), .val (.int shq), .val (.int shg), .val (.int shp), .val (.int qa0), .val (.int qa1), .val (.int qla), .val (.int qb0), .val (.int qb1), .val (.int qlb), .val (.int ga0), .val (.int ga1), .val (.int gla), .val (.int gb0), .val (.int gb1), .val (.int glb), .val (.int pa0), .val (.int pa1), .val (.int pla), .val (.int pb0), .val (.int pb1), .val (.int plb), .val (.ref sr92), .val (.ref sr100), .val (.ref sr112), .val (.ref sr128), .val (.ref sr148), .val (.ref sr172), .val (.ref b200), .val (.int (p5 &&& (3 : Int32))), .val (.ref b271), .unset] [(.int gla), (.int ga1), (.int ga0)])) _
        refine XS.iload X348.here hx rfl (hb hby at_429) rfl ?_
        show Steps p.tables e below (T348.setTop (mkF m 431 #[.val (.int p1), .val (.int p2), .val (.int p3), .val (.int p4), .val (.int p5), .val (.int shq), .val (.int shg), .val (.int shp), .val (.int qa0), .val (.int qa1), .val (.int qla), .val (.int qb0), .val (.int qb1), .val (.int qlb), .val (.int ga0), .val (.int ga1), .val (.int gla), .val (.int gb0), .val (.int gb1), .val (.int glb), .val (.int pa0), .val (.int pa1), .val (.int pla), .val (.int pb0), .val (.int pb1), .val (.int plb), .val (.ref sr92), .val (.ref sr100), .val (.ref sr112), .val (.ref sr128), .val (.ref sr148), .val (.ref sr172), .val (.ref b200), .val (.int (p5 &&& (3 : Int32))), .val (.ref b271), .unset] [(.int gb0), (.int gla), (.int ga1), (.int ga0)])) _
        refine XS.iload X348.here hx rfl (hb hby at_431) rfl ?_
        show Steps p.tables e below (T348.setTop (mkF m 433 #[.val (.int p1), .val (.int p2), .val (.int p3), .val (.int p4), .val (.int p5), .val (.int shq), .val (.int shg), .val (.int shp), .val (.int qa0), .val (.int qa1), .val (.int qla), .val (.int qb0), .val (.int qb1), .val (.int qlb), .val (.int ga0), .val (.int ga1), .val (.int gla), .val (.int gb0), .val (.int gb1), .val (.int glb), .val (.int pa0), .val (.int pa1), .val (.int pla), .val (.int pb0), .val (.int pb1), .val (.int plb), .val (.ref sr92), .val (.ref sr100), .val (.ref sr112), .val (.ref sr128), .val (.ref sr148), .val (.ref sr172), .val (.ref b200), .val (.int (p5 &&& (3 : Int32))), .val (.ref b271), .unset] [(.int gb1), (.int gb0), (.int gla), (.int ga1), (.int ga0)])) _
        refine XS.iload X348.here hx rfl (hb hby at_433) rfl ?_
        show Steps p.tables e below (T348.setTop (mkF m 435 #[.val (.int p1), .val (.int p2), .val (.int p3), .val (.int p4), .val (.int p5), .val (.int shq), .val (.int shg), .val (.int shp), .val (.int qa0), .val (.int qa1), .val (.int qla), .val (.int qb0), .val (.int qb1), .val (.int qlb), .val (.int ga0), .val (.int ga1), .val (.int gla), .val (.int gb0), .val (.int gb1), .val (.int glb), .val (.int pa0), .val (.int pa1), .val (.int pla), .val (.int pb0), .val (.int pb1), .val (.int plb), .val (.ref sr92), .val (.ref sr100), .val (.ref sr112), .val (.ref sr128), .val (.ref sr148), .val (.ref sr172), .val (.ref b200), .val (.int (p5 &&& (3 : Int32))), .val (.ref b271), .unset] [(.int glb), (.int gb1), (.int gb0), (.int gla), (.int ga1), (.int ga0)])) _
        exact k
      obtain ⟨_, _, ⟨T357, L357, kk357, nn357⟩, -, X357, ⟨Lc357, hQ357, lq357, yq357, zq357⟩, st357⟩ := Jvm.LawKit.callS X348 hx (y := (⟨"com/example/conq/conq/model/GroupPartitionEqualsPinLaw", "same", "(IIIIII)Z"⟩ : MethodName)) hown (mvT hZ (hw _ (List.mem_of_getElem? (i := 53) rfl))) (mvT hZ (hw _ (List.mem_of_getElem? (i := 54) rfl))) (mvT hZ (hw _ (List.mem_of_getElem? (i := 2) rfl))) (mvT hZ (hw _ (List.mem_of_getElem? (i := 55) rfl))) (by decide) (backOf (W := 0) (rm10 l Z a0 hw [] ga0 ga1 gla gb0 gb1 glb T310.heap n0 Z344 ) hZ (hw _ (List.mem_of_getElem? (i := 55) rfl)) (hw _ (List.mem_of_getElem? (i := 2) rfl)) (by decide) (by decide)) (g := (mkF m 435 #[.val (.int p1), .val (.int p2), .val (.int p3), .val (.int p4), .val (.int p5), .val (.int shq), .val (.int shg), .val (.int shp), .val (.int qa0), .val (.int qa1), .val (.int qla), .val (.int qb0), .val (.int qb1), .val (.int qlb), .val (.int ga0), .val (.int ga1), .val (.int gla), .val (.int gb0), .val (.int gb1), .val (.int glb), .val (.int pa0), .val (.int pa1), .val (.int pla), .val (.int pb0), .val (.int pb1), .val (.int plb), .val (.ref sr92), .val (.ref sr100), .val (.ref sr112), .val (.ref sr128), .val (.ref sr148), .val (.ref sr172), .val (.ref b200), .val (.int (p5 &&& (3 : Int32))), .val (.ref b271), .unset] [(.int glb), (.int gb1), (.int gb0), (.int gla), (.int ga1), (.int ga0)])) rfl (by rw [hml]; rfl) (argsL := [(.int ga0), (.int ga1), (.int gla), (.int gb0), (.int gb1), (.int glb)]) (rest := []) (lenOf pd_11 rfl) rfl (by show 2 * 0 + _ ≤ _; exact Nat.le_of_eq rfl) (hb hby at_435) (fun _ _ => ⟨rfl, e348, (by decide : 38 + 0 ≤ _), (by decide : 78 + 0 ≤ _)⟩)
      dsimp only [Pt.U, Pt.locs, Pt.cells, Pt.slots] at X357 lq357 yq357 zq357 st357 hQ357
      subst lq357 yq357 zq357
      obtain ⟨rfl, Nq357, e357⟩ := hQ357
      have N358 := Fr.app N349 Nq357
      have K359 : ∀ t, Steps p.tables e below (T357.setTop (mkF m 438 #[.val (.int p1), .val (.int p2), .val (.int p3), .val (.int p4), .val (.int p5), .val (.int shq), .val (.int shg), .val (.int shp), .val (.int qa0), .val (.int qa1), .val (.int qla), .val (.int qb0), .val (.int qb1), .val (.int qlb), .val (.int ga0), .val (.int ga1), .val (.int gla), .val (.int gb0), .val (.int gb1), .val (.int glb), .val (.int pa0), .val (.int pa1), .val (.int pla), .val (.int pb0), .val (.int pb1), .val (.int plb), .val (.ref sr92), .val (.ref sr100), .val (.ref sr112), .val (.ref sr128), .val (.ref sr148), .val (.ref sr172), .val (.ref b200), .val (.int (p5 &&& (3 : Int32))), .val (.ref b271), .unset] [(.int (own_sm ga0 ga1 gla gb0 gb1 glb))])) t → Steps p.tables e below G t := fun t k => K356 t (st357 _ k)
      by_cases hc360 : (own_sm ga0 ga1 gla gb0 gb1 glb) = (0 : Int32)
      · have K361 : ∀ t, Steps p.tables e below (T357.setTop (mkF m 470 #[.val (.int p1), .val (.int p2), .val (.int p3), .val (.int p4), .val (.int p5), .val (.int shq), .val (.int shg), .val (.int shp), .val (.int qa0), .val (.int qa1), .val (.int qla), .val (.int qb0), .val (.int qb1), .val (.int qlb), .val (.int ga0), .val (.int ga1), .val (.int gla), .val (.int gb0), .val (.int gb1), .val (.int glb), .val (.int pa0), .val (.int pa1), .val (.int pla), .val (.int pb0), .val (.int pb1), .val (.int plb), .val (.ref sr92), .val (.ref sr100), .val (.ref sr112), .val (.ref sr128), .val (.ref sr148), .val (.ref sr172), .val (.ref b200), .val (.int (p5 &&& (3 : Int32))), .val (.ref b271), .val (.int (0 : Int32))] [(.ref b271), (.ref b200)])) t → Steps p.tables e below G t := by
          intro t k
          refine K359 t ?_
          show Steps p.tables e below (T357.setTop (mkF m 438 #[.val (.int p1), .val (.int p2), .val (.int p3), .val (.int p4), .val (.int p5), .val (.int shq), .val (.int shg), .val (.int shp), .val (.int qa0), .val (.int qa1), .val (.int qla), .val (.int qb0), .val (.int qb1), .val (.int qlb), .val (.int ga0), .val (.int ga1), .val (.int gla), .val (.int gb0), .val (.int gb1), .val (.int glb), .val (.int pa0), .val (.int pa1), .val (.int pla), .val (.int pb0), .val (.int pb1), .val (.int plb), .val (.ref sr92), .val (.ref sr100), .val (.ref sr112), .val (.ref sr128), .val (.ref sr148), .val (.ref sr172), .val (.ref b200), .val (.int (p5 &&& (3 : Int32))), .val (.ref b271), .unset] [(.int (own_sm ga0 ga1 gla gb0 gb1 glb))])) _
          refine XS.ifYes X357.here hx rfl (pc0 := 438) (pc' := 463) rfl (hb hby at_438) rfl ((if0 _ _).trans (teq hc360).1) (by decide) (by decide) ?_
          show Steps p.tables e below (T357.setTop (mkF m 463 #[.val (.int p1), .val (.int p2), .val (.int p3), .val (.int p4), .val (.int p5), .val (.int shq), .val (.int shg), .val (.int shp), .val (.int qa0), .val (.int qa1), .val (.int qla), .val (.int qb0), .val (.int qb1), .val (.int qlb), .val (.int ga0), .val (.int ga1), .val (.int gla), .val (.int gb0), .val (.int gb1), .val (.int glb), .val (.int pa0), .val (.int pa1), .val (.int pla), .val (.int pb0), .val (.int pb1), .val (.int plb), .val (.ref sr92), .val (.ref sr100), .val (.ref sr112), .val (.ref sr128), .val (.ref sr148), .val (.ref sr172), .val (.ref b200), .val (.int (p5 &&& (3 : Int32))), .val (.ref b271), .unset] [])) _
          refine XS.iconst X357.here hx rfl (hb hby at_463) ?_
          show Steps p.tables e below (T357.setTop (mkF m 464 #[.val (.int p1), .val (.int p2), .val (.int p3), .val (.int p4), .val (.int p5), .val (.int shq), .val (.int shg), .val (.int shp), .val (.int qa0), .val (.int qa1), .val (.int qla), .val (.int qb0), .val (.int qb1), .val (.int qlb), .val (.int ga0), .val (.int ga1), .val (.int gla), .val (.int gb0), .val (.int gb1), .val (.int glb), .val (.int pa0), .val (.int pa1), .val (.int pla), .val (.int pb0), .val (.int pb1), .val (.int plb), .val (.ref sr92), .val (.ref sr100), .val (.ref sr112), .val (.ref sr128), .val (.ref sr148), .val (.ref sr172), .val (.ref b200), .val (.int (p5 &&& (3 : Int32))), .val (.ref b271), .unset] [(.int (0 : Int32))])) _
          refine XS.istore X357.here hx rfl (hb hby at_464) rfl (l' := #[.val (.int p1), .val (.int p2), .val (.int p3), .val (.int p4), .val (.int p5), .val (.int shq), .val (.int shg), .val (.int shp), .val (.int qa0), .val (.int qa1), .val (.int qla), .val (.int qb0), .val (.int qb1), .val (.int qlb), .val (.int ga0), .val (.int ga1), .val (.int gla), .val (.int gb0), .val (.int gb1), .val (.int glb), .val (.int pa0), .val (.int pa1), .val (.int pla), .val (.int pb0), .val (.int pb1), .val (.int plb), .val (.ref sr92), .val (.ref sr100), .val (.ref sr112), .val (.ref sr128), .val (.ref sr148), .val (.ref sr172), .val (.ref b200), .val (.int (p5 &&& (3 : Int32))), .val (.ref b271), .val (.int (0 : Int32))]) rfl ?_
          show Steps p.tables e below (T357.setTop (mkF m 466 #[.val (.int p1), .val (.int p2), .val (.int p3), .val (.int p4), .val (.int p5), .val (.int shq), .val (.int shg), .val (.int shp), .val (.int qa0), .val (.int qa1), .val (.int qla), .val (.int qb0), .val (.int qb1), .val (.int qlb), .val (.int ga0), .val (.int ga1), .val (.int gla), .val (.int gb0), .val (.int gb1), .val (.int glb), .val (.int pa0), .val (.int pa1), .val (.int pla), .val (.int pb0), .val (.int pb1), .val (.int plb), .val (.ref sr92), .val (.ref sr100), .val (.ref sr112), .val (.ref sr128), .val (.ref sr148), .val (.ref sr172), .val (.ref b200), .val (.int (p5 &&& (3 : Int32))), .val (.ref b271), .val (.int (0 : Int32))] [])) _
          refine XS.aload X357.here hx rfl (hb hby at_466) rfl rfl ?_
          show Steps p.tables e below (T357.setTop (mkF m 468 #[.val (.int p1), .val (.int p2), .val (.int p3), .val (.int p4), .val (.int p5), .val (.int shq), .val (.int shg), .val (.int shp), .val (.int qa0), .val (.int qa1), .val (.int qla), .val (.int qb0), .val (.int qb1), .val (.int qlb), .val (.int ga0), .val (.int ga1), .val (.int gla), .val (.int gb0), .val (.int gb1), .val (.int glb), .val (.int pa0), .val (.int pa1), .val (.int pla), .val (.int pb0), .val (.int pb1), .val (.int plb), .val (.ref sr92), .val (.ref sr100), .val (.ref sr112), .val (.ref sr128), .val (.ref sr148), .val (.ref sr172), .val (.ref b200), .val (.int (p5 &&& (3 : Int32))), .val (.ref b271), .val (.int (0 : Int32))] [(.ref b200)])) _
          refine XS.aload X357.here hx rfl (hb hby at_468) rfl rfl ?_
          show Steps p.tables e below (T357.setTop (mkF m 470 #[.val (.int p1), .val (.int p2), .val (.int p3), .val (.int p4), .val (.int p5), .val (.int shq), .val (.int shg), .val (.int shp), .val (.int qa0), .val (.int qa1), .val (.int qla), .val (.int qb0), .val (.int qb1), .val (.int qlb), .val (.int ga0), .val (.int ga1), .val (.int gla), .val (.int gb0), .val (.int gb1), .val (.int glb), .val (.int pa0), .val (.int pa1), .val (.int pla), .val (.int pb0), .val (.int pb1), .val (.int plb), .val (.ref sr92), .val (.ref sr100), .val (.ref sr112), .val (.ref sr128), .val (.ref sr148), .val (.ref sr172), .val (.ref b200), .val (.int (p5 &&& (3 : Int32))), .val (.ref b271), .val (.int (0 : Int32))] [(.ref b271), (.ref b200)])) _
          exact k
        obtain ⟨cq362, kq362, q362a, q362b, q362c⟩ := isOf hZ e357 f339
        obtain ⟨_, _, ⟨T362, L362, kk362, nn362⟩, -, X362, ⟨Lc362, hQ362, lq362, yq362, zq362⟩, st362⟩ := X357.virtualBack hx (y := (⟨"com/example/conq/conq/model/GroupPartition", "equals", "(Ljava/lang/Object;)Z"⟩ : MethodName)) (z := (⟨"com/example/conq/conq/model/GroupPartition", "equals", "(Ljava/lang/Object;)Z"⟩ : MethodName)) hown (mvT hZ (hw _ (List.mem_of_getElem? (i := 56) rfl))) (mvT hZ (hw _ (List.mem_of_getElem? (i := 57) rfl))) (notFace_of_selects (args := #[]) (mvT hZ (hw _ (List.mem_of_getElem? (i := 59) rfl)))) (mvT hZ (hw _ (List.mem_of_getElem? (i := 59) rfl))) (mvT hZ (hw _ (List.mem_of_getElem? (i := 58) rfl))) (by decide) (backOf (W := 0) (rm11_d l Z a0 hw [] b200 b271 sr92 sr128 sb92 sb128 sr100 sr148 sb100 sb148 sr112 sr172 sb112 sb172 sk92 sk128 sk100 sk148 sk112 sk172 sz92 sz128 sz100 sz148 sz112 sz172 sv92 sv128 sv100 sv148 sv112 sv172 cs T310.heap n0 Z344 E310' f340 f341 f342 G0310 G1310 G2310 ⟨f315, f316, f317, f318⟩ ⟨f327, f328, f329, f330⟩ (own_form_len fm92) (own_form_len fm128) (fun q => absurd q ne_sr92_sr128) ⟨f319, f320, f321, f322⟩ ⟨f331, f332, f333, f334⟩ (own_form_len fm100) (own_form_len fm148) (fun q => absurd q ne_sr100_sr148) ⟨f323, f324, f325, f326⟩ ⟨f335, f336, f337, f338⟩ (own_form_len fm112) (own_form_len fm172) (fun q => absurd q ne_sr112_sr172) SC hcs f314) hZ (hw _ (List.mem_of_getElem? (i := 60) rfl)) (hw _ (List.mem_of_getElem? (i := 42) rfl)) (by decide) (by decide)) q362a q362c (g := (mkF m 470 #[.val (.int p1), .val (.int p2), .val (.int p3), .val (.int p4), .val (.int p5), .val (.int shq), .val (.int shg), .val (.int shp), .val (.int qa0), .val (.int qa1), .val (.int qla), .val (.int qb0), .val (.int qb1), .val (.int qlb), .val (.int ga0), .val (.int ga1), .val (.int gla), .val (.int gb0), .val (.int gb1), .val (.int glb), .val (.int pa0), .val (.int pa1), .val (.int pla), .val (.int pb0), .val (.int pb1), .val (.int plb), .val (.ref sr92), .val (.ref sr100), .val (.ref sr112), .val (.ref sr128), .val (.ref sr148), .val (.ref sr172), .val (.ref b200), .val (.int (p5 &&& (3 : Int32))), .val (.ref b271), .val (.int (0 : Int32))] [(.ref b271), (.ref b200)])) rfl (by rw [hml]; rfl) (Steps.refl _) (argsL := [(.ref b271)]) (rest := []) (lenOf pd_7 rfl) rfl (by show 2 * 0 + _ ≤ _; exact Nat.le_of_eq rfl) (hb hby at_470) (fun _ _ => ⟨rfl, e357, (by decide : 38 + 0 ≤ _), (by decide : 78 + 0 ≤ _)⟩)
        dsimp only [Pt.U, Pt.locs, Pt.cells, Pt.slots] at X362 lq362 yq362 zq362 st362 hQ362
        subst lq362 yq362 zq362
        obtain ⟨r362, rfl, Nq362, e362, hr362⟩ := hQ362
        have N363 := Fr.app N358 Nq362
        have K364 : ∀ t, Steps p.tables e below (T362.setTop (mkF m 473 #[.val (.int p1), .val (.int p2), .val (.int p3), .val (.int p4), .val (.int p5), .val (.int shq), .val (.int shg), .val (.int shp), .val (.int qa0), .val (.int qa1), .val (.int qla), .val (.int qb0), .val (.int qb1), .val (.int qlb), .val (.int ga0), .val (.int ga1), .val (.int gla), .val (.int gb0), .val (.int gb1), .val (.int glb), .val (.int pa0), .val (.int pa1), .val (.int pla), .val (.int pb0), .val (.int pb1), .val (.int plb), .val (.ref sr92), .val (.ref sr100), .val (.ref sr112), .val (.ref sr128), .val (.ref sr148), .val (.ref sr172), .val (.ref b200), .val (.int (p5 &&& (3 : Int32))), .val (.ref b271), .val (.int (0 : Int32))] [(.int r362)])) t → Steps p.tables e below G t := fun t k => K361 t (st362.trans k)
        have hfin : r362 = (0 : Int32) := by
          rcases hr362 with ⟨z, y⟩ | ⟨z, y⟩
          · exact absurd ((own_same_iff fm100 fm148 hl_gla hl_glb hb_ga0 hb_ga1 hb_gb0 hb_gb1).mp y.2.1) (own_says_no (own_sm_says ga0 ga1 gla gb0 gb1 glb) hc360)
          · exact z
        have CHt := CH312.trans (CHv.at (s := s) (vm0 := T172.vm) X362 hZ hEL CH312.1)
        obtain ⟨fs, hr, hrun, hended, hEnd⟩ := Jvm.Stand.leaveW (s := s) (vm₁ := T172.vm) X362 hS172 (by rw [e362]; exact kS313) (v := some (.int (1 : Int32))) (fun h => by rw [Bd.returns] at h; cases h)
        have KF := K364
        rw [hG] at KF
        refine ⟨_, _, KF _ ?_, hrun, hended, _, _, rfl, ?_, (by show CHr Z own_EL s.vm s.heap T362.vm T362.heap; rw [hh, e362]; exact CHt), hEnd.1, hEnd.2.1, hEnd.2.2.1, hEnd.2.2.2.mono (by decide) (by decide)⟩
        · show Steps p.tables e below (T362.setTop (mkF m 473 #[.val (.int p1), .val (.int p2), .val (.int p3), .val (.int p4), .val (.int p5), .val (.int shq), .val (.int shg), .val (.int shp), .val (.int qa0), .val (.int qa1), .val (.int qla), .val (.int qb0), .val (.int qb1), .val (.int qlb), .val (.int ga0), .val (.int ga1), .val (.int gla), .val (.int gb0), .val (.int gb1), .val (.int glb), .val (.int pa0), .val (.int pa1), .val (.int pla), .val (.int pb0), .val (.int pb1), .val (.int plb), .val (.ref sr92), .val (.ref sr100), .val (.ref sr112), .val (.ref sr128), .val (.ref sr148), .val (.ref sr172), .val (.ref b200), .val (.int (p5 &&& (3 : Int32))), .val (.ref b271), .val (.int (0 : Int32))] [(.int r362)])) _
          refine XS.iload X362.here hx rfl (hb hby at_473) rfl ?_
          show Steps p.tables e below (T362.setTop (mkF m 475 #[.val (.int p1), .val (.int p2), .val (.int p3), .val (.int p4), .val (.int p5), .val (.int shq), .val (.int shg), .val (.int shp), .val (.int qa0), .val (.int qa1), .val (.int qla), .val (.int qb0), .val (.int qb1), .val (.int qlb), .val (.int ga0), .val (.int ga1), .val (.int gla), .val (.int gb0), .val (.int gb1), .val (.int glb), .val (.int pa0), .val (.int pa1), .val (.int pla), .val (.int pb0), .val (.int pb1), .val (.int plb), .val (.ref sr92), .val (.ref sr100), .val (.ref sr112), .val (.ref sr128), .val (.ref sr148), .val (.ref sr172), .val (.ref b200), .val (.int (p5 &&& (3 : Int32))), .val (.ref b271), .val (.int (0 : Int32))] [(.int (0 : Int32)), (.int r362)])) _
          refine XS.icmpNo X362.here hx rfl (hb hby at_475) rfl (teq hfin).2 ?_
          show Steps p.tables e below (T362.setTop (mkF m 478 #[.val (.int p1), .val (.int p2), .val (.int p3), .val (.int p4), .val (.int p5), .val (.int shq), .val (.int shg), .val (.int shp), .val (.int qa0), .val (.int qa1), .val (.int qla), .val (.int qb0), .val (.int qb1), .val (.int qlb), .val (.int ga0), .val (.int ga1), .val (.int gla), .val (.int gb0), .val (.int gb1), .val (.int glb), .val (.int pa0), .val (.int pa1), .val (.int pla), .val (.int pb0), .val (.int pb1), .val (.int plb), .val (.ref sr92), .val (.ref sr100), .val (.ref sr112), .val (.ref sr128), .val (.ref sr148), .val (.ref sr172), .val (.ref b200), .val (.int (p5 &&& (3 : Int32))), .val (.ref b271), .val (.int (0 : Int32))] [])) _
          refine XS.iconst X362.here hx rfl (hb hby at_478) ?_
          show Steps p.tables e below (T362.setTop (mkF m 479 #[.val (.int p1), .val (.int p2), .val (.int p3), .val (.int p4), .val (.int p5), .val (.int shq), .val (.int shg), .val (.int shp), .val (.int qa0), .val (.int qa1), .val (.int qla), .val (.int qb0), .val (.int qb1), .val (.int qlb), .val (.int ga0), .val (.int ga1), .val (.int gla), .val (.int gb0), .val (.int gb1), .val (.int glb), .val (.int pa0), .val (.int pa1), .val (.int pla), .val (.int pb0), .val (.int pb1), .val (.int plb), .val (.ref sr92), .val (.ref sr100), .val (.ref sr112), .val (.ref sr128), .val (.ref sr148), .val (.ref sr172), .val (.ref b200), .val (.int (p5 &&& (3 : Int32))), .val (.ref b271), .val (.int (0 : Int32))] [(.int (1 : Int32))])) _
          refine XS.goto X362.here hx rfl (pc0 := 479) (pc' := 483) rfl (hb hby at_479) (by decide) (by decide) ?_
          show Steps p.tables e below (T362.setTop (mkF m 483 #[.val (.int p1), .val (.int p2), .val (.int p3), .val (.int p4), .val (.int p5), .val (.int shq), .val (.int shg), .val (.int shp), .val (.int qa0), .val (.int qa1), .val (.int qla), .val (.int qb0), .val (.int qb1), .val (.int qlb), .val (.int ga0), .val (.int ga1), .val (.int gla), .val (.int gb0), .val (.int gb1), .val (.int glb), .val (.int pa0), .val (.int pa1), .val (.int pla), .val (.int pb0), .val (.int pb1), .val (.int plb), .val (.ref sr92), .val (.ref sr100), .val (.ref sr112), .val (.ref sr128), .val (.ref sr148), .val (.ref sr172), .val (.ref b200), .val (.int (p5 &&& (3 : Int32))), .val (.ref b271), .val (.int (0 : Int32))] [(.int (1 : Int32))])) _
          exact retN X362 hx (t := .boolean) Bd.returns (by simp) (hb hby at_483) hr
        · show Q0 n0 _ T362.heap _
          rw [e362]
          exact ⟨rfl, N363⟩
      · have K365 : ∀ t, Steps p.tables e below (T357.setTop (mkF m 453 #[.val (.int p1), .val (.int p2), .val (.int p3), .val (.int p4), .val (.int p5), .val (.int shq), .val (.int shg), .val (.int shp), .val (.int qa0), .val (.int qa1), .val (.int qla), .val (.int qb0), .val (.int qb1), .val (.int qlb), .val (.int ga0), .val (.int ga1), .val (.int gla), .val (.int gb0), .val (.int gb1), .val (.int glb), .val (.int pa0), .val (.int pa1), .val (.int pla), .val (.int pb0), .val (.int pb1), .val (.int plb), .val (.ref sr92), .val (.ref sr100), .val (.ref sr112), .val (.ref sr128), .val (.ref sr148), .val (.ref sr172), .val (.ref b200), .val (.int (p5 &&& (3 : Int32))), .val (.ref b271), .unset] [(.int plb), (.int pb1), (.int pb0), (.int pla), (.int pa1), (.int pa0)])) t → Steps p.tables e below G t := by
          intro t k
          refine K359 t ?_
          show Steps p.tables e below (T357.setTop (mkF m 438 #[.val (.int p1), .val (.int p2), .val (.int p3), .val (.int p4), .val (.int p5), .val (.int shq), .val (.int shg), .val (.int shp), .val (.int qa0), .val (.int qa1), .val (.int qla), .val (.int qb0), .val (.int qb1), .val (.int qlb), .val (.int ga0), .val (.int ga1), .val (.int gla), .val (.int gb0), .val (.int gb1), .val (.int glb), .val (.int pa0), .val (.int pa1), .val (.int pla), .val (.int pb0), .val (.int pb1), .val (.int plb), .val (.ref sr92), .val (.ref sr100), .val (.ref sr112), .val (.ref sr128), .val (.ref sr148), .val (.ref sr172), .val (.ref b200), .val (.int (p5 &&& (3 : Int32))), .val (.ref b271), .unset] [(.int (own_sm ga0 ga1 gla gb0 gb1 glb))])) _
          refine XS.ifNo X357.here hx rfl (hb hby at_438) rfl ((if0 _ _).trans (feq hc360).1) ?_
          show Steps p.tables e below (T357.setTop (mkF m 441 #[.val (.int p1), .val (.int p2), .val (.int p3), .val (.int p4), .val (.int p5), .val (.int shq), .val (.int shg), .val (.int shp), .val (.int qa0), .val (.int qa1), .val (.int qla), .val (.int qb0), .val (.int qb1), .val (.int qlb), .val (.int ga0), .val (.int ga1), .val (.int gla), .val (.int gb0), .val (.int gb1), .val (.int glb), .val (.int pa0), .val (.int pa1), .val (.int pla), .val (.int pb0), .val (.int pb1), .val (.int plb), .val (.ref sr92), .val (.ref sr100), .val (.ref sr112), .val (.ref sr128), .val (.ref sr148), .val (.ref sr172), .val (.ref b200), .val (.int (p5 &&& (3 : Int32))), .val (.ref b271), .unset] [])) _
          refine XS.iload X357.here hx rfl (hb hby at_441) rfl ?_
          show Steps p.tables e below (T357.setTop (mkF m 443 #[.val (.int p1), .val (.int p2), .val (.int p3), .val (.int p4), .val (.int p5), .val (.int shq), .val (.int shg), .val (.int shp), .val (.int qa0), .val (.int qa1), .val (.int qla), .val (.int qb0), .val (.int qb1), .val (.int qlb), .val (.int ga0), .val (.int ga1), .val (.int gla), .val (.int gb0), .val (.int gb1), .val (.int glb), .val (.int pa0), .val (.int pa1), .val (.int pla), .val (.int pb0), .val (.int pb1), .val (.int plb), .val (.ref sr92), .val (.ref sr100), .val (.ref sr112), .val (.ref sr128), .val (.ref sr148), .val (.ref sr172), .val (.ref b200), .val (.int (p5 &&& (3 : Int32))), .val (.ref b271), .unset] [(.int pa0)])) _
          refine XS.iload X357.here hx rfl (hb hby at_443) rfl ?_
          show Steps p.tables e below (T357.setTop (mkF m 445 #[.val (.int p1), .val (.int p2), .val (.int p3), .val (.int p4), .val (.int p5), .val (.int shq), .val (.int shg), .val (.int shp), .val (.int qa0), .val (.int qa1), .val (.int qla), .val (.int qb0), .val (.int qb1), .val (.int qlb), .val (.int ga0), .val (.int ga1), .val (.int gla), .val (.int gb0), .val (.int gb1), .val (.int glb), .val (.int pa0), .val (.int pa1), .val (.int pla), .val (.int pb0), .val (.int pb1), .val (.int plb), .val (.ref sr92), .val (.ref sr100), .val (.ref sr112), .val (.ref sr128), .val (.ref sr148), .val (.ref sr172), .val (.ref b200), .val (.int (p5 &&& (3 : Int32))), .val (.ref b271), .unset] [(.int pa1), (.int pa0)])) _
          refine XS.iload X357.here hx rfl (hb hby at_445) rfl ?_
          show Steps p.tables e below (T357.setTop (mkF m 447 #[.val (.int p1), .val (.int p2), .val (.int p3), .val (.int p4), .val (.int p5), .val (.int shq), .val (.int shg), .val (.int shp), .val (.int qa0), .val (.int qa1), .val (.int qla), .val (.int qb0), .val (.int qb1), .val (.int qlb), .val (.int ga0), .val (.int ga1), .val (.int gla), .val (.int gb0), .val (.int gb1), .val (.int glb), .val (.int pa0), .val (.int pa1), .val (.int pla), .val (.int pb0), .val (.int pb1), .val (.int plb), .val (.ref sr92), .val (.ref sr100), .val (.ref sr112), .val (.ref sr128), .val (.ref sr148), .val (.ref sr172), .val (.ref b200), .val (.int (p5 &&& (3 : Int32))), .val (.ref b271), .unset] [(.int pla), (.int pa1), (.int pa0)])) _
          refine XS.iload X357.here hx rfl (hb hby at_447) rfl ?_
          show Steps p.tables e below (T357.setTop (mkF m 449 #[.val (.int p1), .val (.int p2), .val (.int p3), .val (.int p4), .val (.int p5), .val (.int shq), .val (.int shg), .val (.int shp), .val (.int qa0), .val (.int qa1), .val (.int qla), .val (.int qb0), .val (.int qb1), .val (.int qlb), .val (.int ga0), .val (.int ga1), .val (.int gla), .val (.int gb0), .val (.int gb1), .val (.int glb), .val (.int pa0), .val (.int pa1), .val (.int pla), .val (.int pb0), .val (.int pb1), .val (.int plb), .val (.ref sr92), .val (.ref sr100), .val (.ref sr112), .val (.ref sr128), .val (.ref sr148), .val (.ref sr172), .val (.ref b200), .val (.int (p5 &&& (3 : Int32))), .val (.ref b271), .unset] [(.int pb0), (.int pla), (.int pa1), (.int pa0)])) _
          refine XS.iload X357.here hx rfl (hb hby at_449) rfl ?_
          show Steps p.tables e below (T357.setTop (mkF m 451 #[.val (.int p1), .val (.int p2), .val (.int p3), .val (.int p4), .val (.int p5), .val (.int shq), .val (.int shg), .val (.int shp), .val (.int qa0), .val (.int qa1), .val (.int qla), .val (.int qb0), .val (.int qb1), .val (.int qlb), .val (.int ga0), .val (.int ga1), .val (.int gla), .val (.int gb0), .val (.int gb1), .val (.int glb), .val (.int pa0), .val (.int pa1), .val (.int pla), .val (.int pb0), .val (.int pb1), .val (.int plb), .val (.ref sr92), .val (.ref sr100), .val (.ref sr112), .val (.ref sr128), .val (.ref sr148), .val (.ref sr172), .val (.ref b200), .val (.int (p5 &&& (3 : Int32))), .val (.ref b271), .unset] [(.int pb1), (.int pb0), (.int pla), (.int pa1), (.int pa0)])) _
          refine XS.iload X357.here hx rfl (hb hby at_451) rfl ?_
          show Steps p.tables e below (T357.setTop (mkF m 453 #[.val (.int p1), .val (.int p2), .val (.int p3), .val (.int p4), .val (.int p5), .val (.int shq), .val (.int shg), .val (.int shp), .val (.int qa0), .val (.int qa1), .val (.int qla), .val (.int qb0), .val (.int qb1), .val (.int qlb), .val (.int ga0), .val (.int ga1), .val (.int gla), .val (.int gb0), .val (.int gb1), .val (.int glb), .val (.int pa0), .val (.int pa1), .val (.int pla), .val (.int pb0), .val (.int pb1), .val (.int plb), .val (.ref sr92), .val (.ref sr100), .val (.ref sr112), .val (.ref sr128), .val (.ref sr148), .val (.ref sr172), .val (.ref b200), .val (.int (p5 &&& (3 : Int32))), .val (.ref b271), .unset] [(.int plb), (.int pb1), (.int pb0), (.int pla), (.int pa1), (.int pa0)])) _
          exact k
        obtain ⟨_, _, ⟨T366, L366, kk366, nn366⟩, -, X366, ⟨Lc366, hQ366, lq366, yq366, zq366⟩, st366⟩ := Jvm.LawKit.callS X357 hx (y := (⟨"com/example/conq/conq/model/GroupPartitionEqualsPinLaw", "same", "(IIIIII)Z"⟩ : MethodName)) hown (mvT hZ (hw _ (List.mem_of_getElem? (i := 53) rfl))) (mvT hZ (hw _ (List.mem_of_getElem? (i := 54) rfl))) (mvT hZ (hw _ (List.mem_of_getElem? (i := 2) rfl))) (mvT hZ (hw _ (List.mem_of_getElem? (i := 55) rfl))) (by decide) (backOf (W := 0) (rm10 l Z a0 hw [] pa0 pa1 pla pb0 pb1 plb T310.heap n0 Z344 ) hZ (hw _ (List.mem_of_getElem? (i := 55) rfl)) (hw _ (List.mem_of_getElem? (i := 2) rfl)) (by decide) (by decide)) (g := (mkF m 453 #[.val (.int p1), .val (.int p2), .val (.int p3), .val (.int p4), .val (.int p5), .val (.int shq), .val (.int shg), .val (.int shp), .val (.int qa0), .val (.int qa1), .val (.int qla), .val (.int qb0), .val (.int qb1), .val (.int qlb), .val (.int ga0), .val (.int ga1), .val (.int gla), .val (.int gb0), .val (.int gb1), .val (.int glb), .val (.int pa0), .val (.int pa1), .val (.int pla), .val (.int pb0), .val (.int pb1), .val (.int plb), .val (.ref sr92), .val (.ref sr100), .val (.ref sr112), .val (.ref sr128), .val (.ref sr148), .val (.ref sr172), .val (.ref b200), .val (.int (p5 &&& (3 : Int32))), .val (.ref b271), .unset] [(.int plb), (.int pb1), (.int pb0), (.int pla), (.int pa1), (.int pa0)])) rfl (by rw [hml]; rfl) (argsL := [(.int pa0), (.int pa1), (.int pla), (.int pb0), (.int pb1), (.int plb)]) (rest := []) (lenOf pd_11 rfl) rfl (by show 2 * 0 + _ ≤ _; exact Nat.le_of_eq rfl) (hb hby at_453) (fun _ _ => ⟨rfl, e357, (by decide : 38 + 0 ≤ _), (by decide : 78 + 0 ≤ _)⟩)
        dsimp only [Pt.U, Pt.locs, Pt.cells, Pt.slots] at X366 lq366 yq366 zq366 st366 hQ366
        subst lq366 yq366 zq366
        obtain ⟨rfl, Nq366, e366⟩ := hQ366
        have N367 := Fr.app N358 Nq366
        have K368 : ∀ t, Steps p.tables e below (T366.setTop (mkF m 456 #[.val (.int p1), .val (.int p2), .val (.int p3), .val (.int p4), .val (.int p5), .val (.int shq), .val (.int shg), .val (.int shp), .val (.int qa0), .val (.int qa1), .val (.int qla), .val (.int qb0), .val (.int qb1), .val (.int qlb), .val (.int ga0), .val (.int ga1), .val (.int gla), .val (.int gb0), .val (.int gb1), .val (.int glb), .val (.int pa0), .val (.int pa1), .val (.int pla), .val (.int pb0), .val (.int pb1), .val (.int plb), .val (.ref sr92), .val (.ref sr100), .val (.ref sr112), .val (.ref sr128), .val (.ref sr148), .val (.ref sr172), .val (.ref b200), .val (.int (p5 &&& (3 : Int32))), .val (.ref b271), .unset] [(.int (own_sm pa0 pa1 pla pb0 pb1 plb))])) t → Steps p.tables e below G t := fun t k => K365 t (st366 _ k)
        by_cases hc369 : (own_sm pa0 pa1 pla pb0 pb1 plb) = (0 : Int32)
        · have K370 : ∀ t, Steps p.tables e below (T366.setTop (mkF m 470 #[.val (.int p1), .val (.int p2), .val (.int p3), .val (.int p4), .val (.int p5), .val (.int shq), .val (.int shg), .val (.int shp), .val (.int qa0), .val (.int qa1), .val (.int qla), .val (.int qb0), .val (.int qb1), .val (.int qlb), .val (.int ga0), .val (.int ga1), .val (.int gla), .val (.int gb0), .val (.int gb1), .val (.int glb), .val (.int pa0), .val (.int pa1), .val (.int pla), .val (.int pb0), .val (.int pb1), .val (.int plb), .val (.ref sr92), .val (.ref sr100), .val (.ref sr112), .val (.ref sr128), .val (.ref sr148), .val (.ref sr172), .val (.ref b200), .val (.int (p5 &&& (3 : Int32))), .val (.ref b271), .val (.int (0 : Int32))] [(.ref b271), (.ref b200)])) t → Steps p.tables e below G t := by
            intro t k
            refine K368 t ?_
            show Steps p.tables e below (T366.setTop (mkF m 456 #[.val (.int p1), .val (.int p2), .val (.int p3), .val (.int p4), .val (.int p5), .val (.int shq), .val (.int shg), .val (.int shp), .val (.int qa0), .val (.int qa1), .val (.int qla), .val (.int qb0), .val (.int qb1), .val (.int qlb), .val (.int ga0), .val (.int ga1), .val (.int gla), .val (.int gb0), .val (.int gb1), .val (.int glb), .val (.int pa0), .val (.int pa1), .val (.int pla), .val (.int pb0), .val (.int pb1), .val (.int plb), .val (.ref sr92), .val (.ref sr100), .val (.ref sr112), .val (.ref sr128), .val (.ref sr148), .val (.ref sr172), .val (.ref b200), .val (.int (p5 &&& (3 : Int32))), .val (.ref b271), .unset] [(.int (own_sm pa0 pa1 pla pb0 pb1 plb))])) _
            refine XS.ifYes X366.here hx rfl (pc0 := 456) (pc' := 463) rfl (hb hby at_456) rfl ((if0 _ _).trans (teq hc369).1) (by decide) (by decide) ?_
            show Steps p.tables e below (T366.setTop (mkF m 463 #[.val (.int p1), .val (.int p2), .val (.int p3), .val (.int p4), .val (.int p5), .val (.int shq), .val (.int shg), .val (.int shp), .val (.int qa0), .val (.int qa1), .val (.int qla), .val (.int qb0), .val (.int qb1), .val (.int qlb), .val (.int ga0), .val (.int ga1), .val (.int gla), .val (.int gb0), .val (.int gb1), .val (.int glb), .val (.int pa0), .val (.int pa1), .val (.int pla), .val (.int pb0), .val (.int pb1), .val (.int plb), .val (.ref sr92), .val (.ref sr100), .val (.ref sr112), .val (.ref sr128), .val (.ref sr148), .val (.ref sr172), .val (.ref b200), .val (.int (p5 &&& (3 : Int32))), .val (.ref b271), .unset] [])) _
            refine XS.iconst X366.here hx rfl (hb hby at_463) ?_
            show Steps p.tables e below (T366.setTop (mkF m 464 #[.val (.int p1), .val (.int p2), .val (.int p3), .val (.int p4), .val (.int p5), .val (.int shq), .val (.int shg), .val (.int shp), .val (.int qa0), .val (.int qa1), .val (.int qla), .val (.int qb0), .val (.int qb1), .val (.int qlb), .val (.int ga0), .val (.int ga1), .val (.int gla), .val (.int gb0), .val (.int gb1), .val (.int glb), .val (.int pa0), .val (.int pa1), .val (.int pla), .val (.int pb0), .val (.int pb1), .val (.int plb), .val (.ref sr92), .val (.ref sr100), .val (.ref sr112), .val (.ref sr128), .val (.ref sr148), .val (.ref sr172), .val (.ref b200), .val (.int (p5 &&& (3 : Int32))), .val (.ref b271), .unset] [(.int (0 : Int32))])) _
            refine XS.istore X366.here hx rfl (hb hby at_464) rfl (l' := #[.val (.int p1), .val (.int p2), .val (.int p3), .val (.int p4), .val (.int p5), .val (.int shq), .val (.int shg), .val (.int shp), .val (.int qa0), .val (.int qa1), .val (.int qla), .val (.int qb0), .val (.int qb1), .val (.int qlb), .val (.int ga0), .val (.int ga1), .val (.int gla), .val (.int gb0), .val (.int gb1), .val (.int glb), .val (.int pa0), .val (.int pa1), .val (.int pla), .val (.int pb0), .val (.int pb1), .val (.int plb), .val (.ref sr92), .val (.ref sr100), .val (.ref sr112), .val (.ref sr128), .val (.ref sr148), .val (.ref sr172), .val (.ref b200), .val (.int (p5 &&& (3 : Int32))), .val (.ref b271), .val (.int (0 : Int32))]) rfl ?_
            show Steps p.tables e below (T366.setTop (mkF m 466 #[.val (.int p1), .val (.int p2), .val (.int p3), .val (.int p4), .val (.int p5), .val (.int shq), .val (.int shg), .val (.int shp), .val (.int qa0), .val (.int qa1), .val (.int qla), .val (.int qb0), .val (.int qb1), .val (.int qlb), .val (.int ga0), .val (.int ga1), .val (.int gla), .val (.int gb0), .val (.int gb1), .val (.int glb), .val (.int pa0), .val (.int pa1), .val (.int pla), .val (.int pb0), .val (.int pb1), .val (.int plb), .val (.ref sr92), .val (.ref sr100), .val (.ref sr112), .val (.ref sr128), .val (.ref sr148), .val (.ref sr172), .val (.ref b200), .val (.int (p5 &&& (3 : Int32))), .val (.ref b271), .val (.int (0 : Int32))] [])) _
            refine XS.aload X366.here hx rfl (hb hby at_466) rfl rfl ?_
            show Steps p.tables e below (T366.setTop (mkF m 468 #[.val (.int p1), .val (.int p2), .val (.int p3), .val (.int p4), .val (.int p5), .val (.int shq), .val (.int shg), .val (.int shp), .val (.int qa0), .val (.int qa1), .val (.int qla), .val (.int qb0), .val (.int qb1), .val (.int qlb), .val (.int ga0), .val (.int ga1), .val (.int gla), .val (.int gb0), .val (.int gb1), .val (.int glb), .val (.int pa0), .val (.int pa1), .val (.int pla), .val (.int pb0), .val (.int pb1), .val (.int plb), .val (.ref sr92), .val (.ref sr100), .val (.ref sr112), .val (.ref sr128), .val (.ref sr148), .val (.ref sr172), .val (.ref b200), .val (.int (p5 &&& (3 : Int32))), .val (.ref b271), .val (.int (0 : Int32))] [(.ref b200)])) _
            refine XS.aload X366.here hx rfl (hb hby at_468) rfl rfl ?_
            show Steps p.tables e below (T366.setTop (mkF m 470 #[.val (.int p1), .val (.int p2), .val (.int p3), .val (.int p4), .val (.int p5), .val (.int shq), .val (.int shg), .val (.int shp), .val (.int qa0), .val (.int qa1), .val (.int qla), .val (.int qb0), .val (.int qb1), .val (.int qlb), .val (.int ga0), .val (.int ga1), .val (.int gla), .val (.int gb0), .val (.int gb1), .val (.int glb), .val (.int pa0), .val (.int pa1), .val (.int pla), .val (.int pb0), .val (.int pb1), .val (.int plb), .val (.ref sr92), .val (.ref sr100), .val (.ref sr112), .val (.ref sr128), .val (.ref sr148), .val (.ref sr172), .val (.ref b200), .val (.int (p5 &&& (3 : Int32))), .val (.ref b271), .val (.int (0 : Int32))] [(.ref b271), (.ref b200)])) _
            exact k
          obtain ⟨cq371, kq371, q371a, q371b, q371c⟩ := isOf hZ e366 f339
          obtain ⟨_, _, ⟨T371, L371, kk371, nn371⟩, -, X371, ⟨Lc371, hQ371, lq371, yq371, zq371⟩, st371⟩ := X366.virtualBack hx (y := (⟨"com/example/conq/conq/model/GroupPartition", "equals", "(Ljava/lang/Object;)Z"⟩ : MethodName)) (z := (⟨"com/example/conq/conq/model/GroupPartition", "equals", "(Ljava/lang/Object;)Z"⟩ : MethodName)) hown (mvT hZ (hw _ (List.mem_of_getElem? (i := 56) rfl))) (mvT hZ (hw _ (List.mem_of_getElem? (i := 57) rfl))) (notFace_of_selects (args := #[]) (mvT hZ (hw _ (List.mem_of_getElem? (i := 59) rfl)))) (mvT hZ (hw _ (List.mem_of_getElem? (i := 59) rfl))) (mvT hZ (hw _ (List.mem_of_getElem? (i := 58) rfl))) (by decide) (backOf (W := 0) (rm11_d l Z a0 hw [] b200 b271 sr92 sr128 sb92 sb128 sr100 sr148 sb100 sb148 sr112 sr172 sb112 sb172 sk92 sk128 sk100 sk148 sk112 sk172 sz92 sz128 sz100 sz148 sz112 sz172 sv92 sv128 sv100 sv148 sv112 sv172 cs T310.heap n0 Z344 E310' f340 f341 f342 G0310 G1310 G2310 ⟨f315, f316, f317, f318⟩ ⟨f327, f328, f329, f330⟩ (own_form_len fm92) (own_form_len fm128) (fun q => absurd q ne_sr92_sr128) ⟨f319, f320, f321, f322⟩ ⟨f331, f332, f333, f334⟩ (own_form_len fm100) (own_form_len fm148) (fun q => absurd q ne_sr100_sr148) ⟨f323, f324, f325, f326⟩ ⟨f335, f336, f337, f338⟩ (own_form_len fm112) (own_form_len fm172) (fun q => absurd q ne_sr112_sr172) SC hcs f314) hZ (hw _ (List.mem_of_getElem? (i := 60) rfl)) (hw _ (List.mem_of_getElem? (i := 42) rfl)) (by decide) (by decide)) q371a q371c (g := (mkF m 470 #[.val (.int p1), .val (.int p2), .val (.int p3), .val (.int p4), .val (.int p5), .val (.int shq), .val (.int shg), .val (.int shp), .val (.int qa0), .val (.int qa1), .val (.int qla), .val (.int qb0), .val (.int qb1), .val (.int qlb), .val (.int ga0), .val (.int ga1), .val (.int gla), .val (.int gb0), .val (.int gb1), .val (.int glb), .val (.int pa0), .val (.int pa1), .val (.int pla), .val (.int pb0), .val (.int pb1), .val (.int plb), .val (.ref sr92), .val (.ref sr100), .val (.ref sr112), .val (.ref sr128), .val (.ref sr148), .val (.ref sr172), .val (.ref b200), .val (.int (p5 &&& (3 : Int32))), .val (.ref b271), .val (.int (0 : Int32))] [(.ref b271), (.ref b200)])) rfl (by rw [hml]; rfl) (Steps.refl _) (argsL := [(.ref b271)]) (rest := []) (lenOf pd_7 rfl) rfl (by show 2 * 0 + _ ≤ _; exact Nat.le_of_eq rfl) (hb hby at_470) (fun _ _ => ⟨rfl, e366, (by decide : 38 + 0 ≤ _), (by decide : 78 + 0 ≤ _)⟩)
          dsimp only [Pt.U, Pt.locs, Pt.cells, Pt.slots] at X371 lq371 yq371 zq371 st371 hQ371
          subst lq371 yq371 zq371
          obtain ⟨r371, rfl, Nq371, e371, hr371⟩ := hQ371
          have N372 := Fr.app N367 Nq371
          have K373 : ∀ t, Steps p.tables e below (T371.setTop (mkF m 473 #[.val (.int p1), .val (.int p2), .val (.int p3), .val (.int p4), .val (.int p5), .val (.int shq), .val (.int shg), .val (.int shp), .val (.int qa0), .val (.int qa1), .val (.int qla), .val (.int qb0), .val (.int qb1), .val (.int qlb), .val (.int ga0), .val (.int ga1), .val (.int gla), .val (.int gb0), .val (.int gb1), .val (.int glb), .val (.int pa0), .val (.int pa1), .val (.int pla), .val (.int pb0), .val (.int pb1), .val (.int plb), .val (.ref sr92), .val (.ref sr100), .val (.ref sr112), .val (.ref sr128), .val (.ref sr148), .val (.ref sr172), .val (.ref b200), .val (.int (p5 &&& (3 : Int32))), .val (.ref b271), .val (.int (0 : Int32))] [(.int r371)])) t → Steps p.tables e below G t := fun t k => K370 t (st371.trans k)
          have hfin : r371 = (0 : Int32) := by
            rcases hr371 with ⟨z, y⟩ | ⟨z, y⟩
            · exact absurd ((own_same_iff fm112 fm172 hl_pla hl_plb hb_pa0 hb_pa1 hb_pb0 hb_pb1).mp y.2.2) (own_says_no (own_sm_says pa0 pa1 pla pb0 pb1 plb) hc369)
            · exact z
          have CHt := CH312.trans (CHv.at (s := s) (vm0 := T172.vm) X371 hZ hEL CH312.1)
          obtain ⟨fs, hr, hrun, hended, hEnd⟩ := Jvm.Stand.leaveW (s := s) (vm₁ := T172.vm) X371 hS172 (by rw [e371]; exact kS313) (v := some (.int (1 : Int32))) (fun h => by rw [Bd.returns] at h; cases h)
          have KF := K373
          rw [hG] at KF
          refine ⟨_, _, KF _ ?_, hrun, hended, _, _, rfl, ?_, (by show CHr Z own_EL s.vm s.heap T371.vm T371.heap; rw [hh, e371]; exact CHt), hEnd.1, hEnd.2.1, hEnd.2.2.1, hEnd.2.2.2.mono (by decide) (by decide)⟩
          · show Steps p.tables e below (T371.setTop (mkF m 473 #[.val (.int p1), .val (.int p2), .val (.int p3), .val (.int p4), .val (.int p5), .val (.int shq), .val (.int shg), .val (.int shp), .val (.int qa0), .val (.int qa1), .val (.int qla), .val (.int qb0), .val (.int qb1), .val (.int qlb), .val (.int ga0), .val (.int ga1), .val (.int gla), .val (.int gb0), .val (.int gb1), .val (.int glb), .val (.int pa0), .val (.int pa1), .val (.int pla), .val (.int pb0), .val (.int pb1), .val (.int plb), .val (.ref sr92), .val (.ref sr100), .val (.ref sr112), .val (.ref sr128), .val (.ref sr148), .val (.ref sr172), .val (.ref b200), .val (.int (p5 &&& (3 : Int32))), .val (.ref b271), .val (.int (0 : Int32))] [(.int r371)])) _
            refine XS.iload X371.here hx rfl (hb hby at_473) rfl ?_
            show Steps p.tables e below (T371.setTop (mkF m 475 #[.val (.int p1), .val (.int p2), .val (.int p3), .val (.int p4), .val (.int p5), .val (.int shq), .val (.int shg), .val (.int shp), .val (.int qa0), .val (.int qa1), .val (.int qla), .val (.int qb0), .val (.int qb1), .val (.int qlb), .val (.int ga0), .val (.int ga1), .val (.int gla), .val (.int gb0), .val (.int gb1), .val (.int glb), .val (.int pa0), .val (.int pa1), .val (.int pla), .val (.int pb0), .val (.int pb1), .val (.int plb), .val (.ref sr92), .val (.ref sr100), .val (.ref sr112), .val (.ref sr128), .val (.ref sr148), .val (.ref sr172), .val (.ref b200), .val (.int (p5 &&& (3 : Int32))), .val (.ref b271), .val (.int (0 : Int32))] [(.int (0 : Int32)), (.int r371)])) _
            refine XS.icmpNo X371.here hx rfl (hb hby at_475) rfl (teq hfin).2 ?_
            show Steps p.tables e below (T371.setTop (mkF m 478 #[.val (.int p1), .val (.int p2), .val (.int p3), .val (.int p4), .val (.int p5), .val (.int shq), .val (.int shg), .val (.int shp), .val (.int qa0), .val (.int qa1), .val (.int qla), .val (.int qb0), .val (.int qb1), .val (.int qlb), .val (.int ga0), .val (.int ga1), .val (.int gla), .val (.int gb0), .val (.int gb1), .val (.int glb), .val (.int pa0), .val (.int pa1), .val (.int pla), .val (.int pb0), .val (.int pb1), .val (.int plb), .val (.ref sr92), .val (.ref sr100), .val (.ref sr112), .val (.ref sr128), .val (.ref sr148), .val (.ref sr172), .val (.ref b200), .val (.int (p5 &&& (3 : Int32))), .val (.ref b271), .val (.int (0 : Int32))] [])) _
            refine XS.iconst X371.here hx rfl (hb hby at_478) ?_
            show Steps p.tables e below (T371.setTop (mkF m 479 #[.val (.int p1), .val (.int p2), .val (.int p3), .val (.int p4), .val (.int p5), .val (.int shq), .val (.int shg), .val (.int shp), .val (.int qa0), .val (.int qa1), .val (.int qla), .val (.int qb0), .val (.int qb1), .val (.int qlb), .val (.int ga0), .val (.int ga1), .val (.int gla), .val (.int gb0), .val (.int gb1), .val (.int glb), .val (.int pa0), .val (.int pa1), .val (.int pla), .val (.int pb0), .val (.int pb1), .val (.int plb), .val (.ref sr92), .val (.ref sr100), .val (.ref sr112), .val (.ref sr128), .val (.ref sr148), .val (.ref sr172), .val (.ref b200), .val (.int (p5 &&& (3 : Int32))), .val (.ref b271), .val (.int (0 : Int32))] [(.int (1 : Int32))])) _
            refine XS.goto X371.here hx rfl (pc0 := 479) (pc' := 483) rfl (hb hby at_479) (by decide) (by decide) ?_
            show Steps p.tables e below (T371.setTop (mkF m 483 #[.val (.int p1), .val (.int p2), .val (.int p3), .val (.int p4), .val (.int p5), .val (.int shq), .val (.int shg), .val (.int shp), .val (.int qa0), .val (.int qa1), .val (.int qla), .val (.int qb0), .val (.int qb1), .val (.int qlb), .val (.int ga0), .val (.int ga1), .val (.int gla), .val (.int gb0), .val (.int gb1), .val (.int glb), .val (.int pa0), .val (.int pa1), .val (.int pla), .val (.int pb0), .val (.int pb1), .val (.int plb), .val (.ref sr92), .val (.ref sr100), .val (.ref sr112), .val (.ref sr128), .val (.ref sr148), .val (.ref sr172), .val (.ref b200), .val (.int (p5 &&& (3 : Int32))), .val (.ref b271), .val (.int (0 : Int32))] [(.int (1 : Int32))])) _
            exact retN X371 hx (t := .boolean) Bd.returns (by simp) (hb hby at_483) hr
          · show Q0 n0 _ T371.heap _
            rw [e371]
            exact ⟨rfl, N372⟩
        · have K374 : ∀ t, Steps p.tables e below (T366.setTop (mkF m 470 #[.val (.int p1), .val (.int p2), .val (.int p3), .val (.int p4), .val (.int p5), .val (.int shq), .val (.int shg), .val (.int shp), .val (.int qa0), .val (.int qa1), .val (.int qla), .val (.int qb0), .val (.int qb1), .val (.int qlb), .val (.int ga0), .val (.int ga1), .val (.int gla), .val (.int gb0), .val (.int gb1), .val (.int glb), .val (.int pa0), .val (.int pa1), .val (.int pla), .val (.int pb0), .val (.int pb1), .val (.int plb), .val (.ref sr92), .val (.ref sr100), .val (.ref sr112), .val (.ref sr128), .val (.ref sr148), .val (.ref sr172), .val (.ref b200), .val (.int (p5 &&& (3 : Int32))), .val (.ref b271), .val (.int (1 : Int32))] [(.ref b271), (.ref b200)])) t → Steps p.tables e below G t := by
            intro t k
            refine K368 t ?_
            show Steps p.tables e below (T366.setTop (mkF m 456 #[.val (.int p1), .val (.int p2), .val (.int p3), .val (.int p4), .val (.int p5), .val (.int shq), .val (.int shg), .val (.int shp), .val (.int qa0), .val (.int qa1), .val (.int qla), .val (.int qb0), .val (.int qb1), .val (.int qlb), .val (.int ga0), .val (.int ga1), .val (.int gla), .val (.int gb0), .val (.int gb1), .val (.int glb), .val (.int pa0), .val (.int pa1), .val (.int pla), .val (.int pb0), .val (.int pb1), .val (.int plb), .val (.ref sr92), .val (.ref sr100), .val (.ref sr112), .val (.ref sr128), .val (.ref sr148), .val (.ref sr172), .val (.ref b200), .val (.int (p5 &&& (3 : Int32))), .val (.ref b271), .unset] [(.int (own_sm pa0 pa1 pla pb0 pb1 plb))])) _
            refine XS.ifNo X366.here hx rfl (hb hby at_456) rfl ((if0 _ _).trans (feq hc369).1) ?_
            show Steps p.tables e below (T366.setTop (mkF m 459 #[.val (.int p1), .val (.int p2), .val (.int p3), .val (.int p4), .val (.int p5), .val (.int shq), .val (.int shg), .val (.int shp), .val (.int qa0), .val (.int qa1), .val (.int qla), .val (.int qb0), .val (.int qb1), .val (.int qlb), .val (.int ga0), .val (.int ga1), .val (.int gla), .val (.int gb0), .val (.int gb1), .val (.int glb), .val (.int pa0), .val (.int pa1), .val (.int pla), .val (.int pb0), .val (.int pb1), .val (.int plb), .val (.ref sr92), .val (.ref sr100), .val (.ref sr112), .val (.ref sr128), .val (.ref sr148), .val (.ref sr172), .val (.ref b200), .val (.int (p5 &&& (3 : Int32))), .val (.ref b271), .unset] [])) _
            refine XS.iconst X366.here hx rfl (hb hby at_459) ?_
            show Steps p.tables e below (T366.setTop (mkF m 460 #[.val (.int p1), .val (.int p2), .val (.int p3), .val (.int p4), .val (.int p5), .val (.int shq), .val (.int shg), .val (.int shp), .val (.int qa0), .val (.int qa1), .val (.int qla), .val (.int qb0), .val (.int qb1), .val (.int qlb), .val (.int ga0), .val (.int ga1), .val (.int gla), .val (.int gb0), .val (.int gb1), .val (.int glb), .val (.int pa0), .val (.int pa1), .val (.int pla), .val (.int pb0), .val (.int pb1), .val (.int plb), .val (.ref sr92), .val (.ref sr100), .val (.ref sr112), .val (.ref sr128), .val (.ref sr148), .val (.ref sr172), .val (.ref b200), .val (.int (p5 &&& (3 : Int32))), .val (.ref b271), .unset] [(.int (1 : Int32))])) _
            refine XS.goto X366.here hx rfl (pc0 := 460) (pc' := 464) rfl (hb hby at_460) (by decide) (by decide) ?_
            show Steps p.tables e below (T366.setTop (mkF m 464 #[.val (.int p1), .val (.int p2), .val (.int p3), .val (.int p4), .val (.int p5), .val (.int shq), .val (.int shg), .val (.int shp), .val (.int qa0), .val (.int qa1), .val (.int qla), .val (.int qb0), .val (.int qb1), .val (.int qlb), .val (.int ga0), .val (.int ga1), .val (.int gla), .val (.int gb0), .val (.int gb1), .val (.int glb), .val (.int pa0), .val (.int pa1), .val (.int pla), .val (.int pb0), .val (.int pb1), .val (.int plb), .val (.ref sr92), .val (.ref sr100), .val (.ref sr112), .val (.ref sr128), .val (.ref sr148), .val (.ref sr172), .val (.ref b200), .val (.int (p5 &&& (3 : Int32))), .val (.ref b271), .unset] [(.int (1 : Int32))])) _
            refine XS.istore X366.here hx rfl (hb hby at_464) rfl (l' := #[.val (.int p1), .val (.int p2), .val (.int p3), .val (.int p4), .val (.int p5), .val (.int shq), .val (.int shg), .val (.int shp), .val (.int qa0), .val (.int qa1), .val (.int qla), .val (.int qb0), .val (.int qb1), .val (.int qlb), .val (.int ga0), .val (.int ga1), .val (.int gla), .val (.int gb0), .val (.int gb1), .val (.int glb), .val (.int pa0), .val (.int pa1), .val (.int pla), .val (.int pb0), .val (.int pb1), .val (.int plb), .val (.ref sr92), .val (.ref sr100), .val (.ref sr112), .val (.ref sr128), .val (.ref sr148), .val (.ref sr172), .val (.ref b200), .val (.int (p5 &&& (3 : Int32))), .val (.ref b271), .val (.int (1 : Int32))]) rfl ?_
            show Steps p.tables e below (T366.setTop (mkF m 466 #[.val (.int p1), .val (.int p2), .val (.int p3), .val (.int p4), .val (.int p5), .val (.int shq), .val (.int shg), .val (.int shp), .val (.int qa0), .val (.int qa1), .val (.int qla), .val (.int qb0), .val (.int qb1), .val (.int qlb), .val (.int ga0), .val (.int ga1), .val (.int gla), .val (.int gb0), .val (.int gb1), .val (.int glb), .val (.int pa0), .val (.int pa1), .val (.int pla), .val (.int pb0), .val (.int pb1), .val (.int plb), .val (.ref sr92), .val (.ref sr100), .val (.ref sr112), .val (.ref sr128), .val (.ref sr148), .val (.ref sr172), .val (.ref b200), .val (.int (p5 &&& (3 : Int32))), .val (.ref b271), .val (.int (1 : Int32))] [])) _
            refine XS.aload X366.here hx rfl (hb hby at_466) rfl rfl ?_
            show Steps p.tables e below (T366.setTop (mkF m 468 #[.val (.int p1), .val (.int p2), .val (.int p3), .val (.int p4), .val (.int p5), .val (.int shq), .val (.int shg), .val (.int shp), .val (.int qa0), .val (.int qa1), .val (.int qla), .val (.int qb0), .val (.int qb1), .val (.int qlb), .val (.int ga0), .val (.int ga1), .val (.int gla), .val (.int gb0), .val (.int gb1), .val (.int glb), .val (.int pa0), .val (.int pa1), .val (.int pla), .val (.int pb0), .val (.int pb1), .val (.int plb), .val (.ref sr92), .val (.ref sr100), .val (.ref sr112), .val (.ref sr128), .val (.ref sr148), .val (.ref sr172), .val (.ref b200), .val (.int (p5 &&& (3 : Int32))), .val (.ref b271), .val (.int (1 : Int32))] [(.ref b200)])) _
            refine XS.aload X366.here hx rfl (hb hby at_468) rfl rfl ?_
            show Steps p.tables e below (T366.setTop (mkF m 470 #[.val (.int p1), .val (.int p2), .val (.int p3), .val (.int p4), .val (.int p5), .val (.int shq), .val (.int shg), .val (.int shp), .val (.int qa0), .val (.int qa1), .val (.int qla), .val (.int qb0), .val (.int qb1), .val (.int qlb), .val (.int ga0), .val (.int ga1), .val (.int gla), .val (.int gb0), .val (.int gb1), .val (.int glb), .val (.int pa0), .val (.int pa1), .val (.int pla), .val (.int pb0), .val (.int pb1), .val (.int plb), .val (.ref sr92), .val (.ref sr100), .val (.ref sr112), .val (.ref sr128), .val (.ref sr148), .val (.ref sr172), .val (.ref b200), .val (.int (p5 &&& (3 : Int32))), .val (.ref b271), .val (.int (1 : Int32))] [(.ref b271), (.ref b200)])) _
            exact k
          obtain ⟨cq375, kq375, q375a, q375b, q375c⟩ := isOf hZ e366 f339
          obtain ⟨_, _, ⟨T375, L375, kk375, nn375⟩, -, X375, ⟨Lc375, hQ375, lq375, yq375, zq375⟩, st375⟩ := X366.virtualBack hx (y := (⟨"com/example/conq/conq/model/GroupPartition", "equals", "(Ljava/lang/Object;)Z"⟩ : MethodName)) (z := (⟨"com/example/conq/conq/model/GroupPartition", "equals", "(Ljava/lang/Object;)Z"⟩ : MethodName)) hown (mvT hZ (hw _ (List.mem_of_getElem? (i := 56) rfl))) (mvT hZ (hw _ (List.mem_of_getElem? (i := 57) rfl))) (notFace_of_selects (args := #[]) (mvT hZ (hw _ (List.mem_of_getElem? (i := 59) rfl)))) (mvT hZ (hw _ (List.mem_of_getElem? (i := 59) rfl))) (mvT hZ (hw _ (List.mem_of_getElem? (i := 58) rfl))) (by decide) (backOf (W := 0) (rm11_d l Z a0 hw [] b200 b271 sr92 sr128 sb92 sb128 sr100 sr148 sb100 sb148 sr112 sr172 sb112 sb172 sk92 sk128 sk100 sk148 sk112 sk172 sz92 sz128 sz100 sz148 sz112 sz172 sv92 sv128 sv100 sv148 sv112 sv172 cs T310.heap n0 Z344 E310' f340 f341 f342 G0310 G1310 G2310 ⟨f315, f316, f317, f318⟩ ⟨f327, f328, f329, f330⟩ (own_form_len fm92) (own_form_len fm128) (fun q => absurd q ne_sr92_sr128) ⟨f319, f320, f321, f322⟩ ⟨f331, f332, f333, f334⟩ (own_form_len fm100) (own_form_len fm148) (fun q => absurd q ne_sr100_sr148) ⟨f323, f324, f325, f326⟩ ⟨f335, f336, f337, f338⟩ (own_form_len fm112) (own_form_len fm172) (fun q => absurd q ne_sr112_sr172) SC hcs f314) hZ (hw _ (List.mem_of_getElem? (i := 60) rfl)) (hw _ (List.mem_of_getElem? (i := 42) rfl)) (by decide) (by decide)) q375a q375c (g := (mkF m 470 #[.val (.int p1), .val (.int p2), .val (.int p3), .val (.int p4), .val (.int p5), .val (.int shq), .val (.int shg), .val (.int shp), .val (.int qa0), .val (.int qa1), .val (.int qla), .val (.int qb0), .val (.int qb1), .val (.int qlb), .val (.int ga0), .val (.int ga1), .val (.int gla), .val (.int gb0), .val (.int gb1), .val (.int glb), .val (.int pa0), .val (.int pa1), .val (.int pla), .val (.int pb0), .val (.int pb1), .val (.int plb), .val (.ref sr92), .val (.ref sr100), .val (.ref sr112), .val (.ref sr128), .val (.ref sr148), .val (.ref sr172), .val (.ref b200), .val (.int (p5 &&& (3 : Int32))), .val (.ref b271), .val (.int (1 : Int32))] [(.ref b271), (.ref b200)])) rfl (by rw [hml]; rfl) (Steps.refl _) (argsL := [(.ref b271)]) (rest := []) (lenOf pd_7 rfl) rfl (by show 2 * 0 + _ ≤ _; exact Nat.le_of_eq rfl) (hb hby at_470) (fun _ _ => ⟨rfl, e366, (by decide : 38 + 0 ≤ _), (by decide : 78 + 0 ≤ _)⟩)
          dsimp only [Pt.U, Pt.locs, Pt.cells, Pt.slots] at X375 lq375 yq375 zq375 st375 hQ375
          subst lq375 yq375 zq375
          obtain ⟨r375, rfl, Nq375, e375, hr375⟩ := hQ375
          have N376 := Fr.app N367 Nq375
          have K377 : ∀ t, Steps p.tables e below (T375.setTop (mkF m 473 #[.val (.int p1), .val (.int p2), .val (.int p3), .val (.int p4), .val (.int p5), .val (.int shq), .val (.int shg), .val (.int shp), .val (.int qa0), .val (.int qa1), .val (.int qla), .val (.int qb0), .val (.int qb1), .val (.int qlb), .val (.int ga0), .val (.int ga1), .val (.int gla), .val (.int gb0), .val (.int gb1), .val (.int glb), .val (.int pa0), .val (.int pa1), .val (.int pla), .val (.int pb0), .val (.int pb1), .val (.int plb), .val (.ref sr92), .val (.ref sr100), .val (.ref sr112), .val (.ref sr128), .val (.ref sr148), .val (.ref sr172), .val (.ref b200), .val (.int (p5 &&& (3 : Int32))), .val (.ref b271), .val (.int (1 : Int32))] [(.int r375)])) t → Steps p.tables e below G t := fun t k => K374 t (st375.trans k)
          have hfin : r375 = (1 : Int32) := by
            rcases hr375 with ⟨z, y⟩ | ⟨z, y⟩
            · exact z
            · exact absurd ⟨(own_same_iff fm92 fm128 hl_qla hl_qlb hb_qa0 hb_qa1 hb_qb0 hb_qb1).mpr (own_says_yes (own_sm_says qa0 qa1 qla qb0 qb1 qlb) hc351), (own_same_iff fm100 fm148 hl_gla hl_glb hb_ga0 hb_ga1 hb_gb0 hb_gb1).mpr (own_says_yes (own_sm_says ga0 ga1 gla gb0 gb1 glb) hc360), (own_same_iff fm112 fm172 hl_pla hl_plb hb_pa0 hb_pa1 hb_pb0 hb_pb1).mpr (own_says_yes (own_sm_says pa0 pa1 pla pb0 pb1 plb) hc369)⟩ y
          have CHt := CH312.trans (CHv.at (s := s) (vm0 := T172.vm) X375 hZ hEL CH312.1)
          obtain ⟨fs, hr, hrun, hended, hEnd⟩ := Jvm.Stand.leaveW (s := s) (vm₁ := T172.vm) X375 hS172 (by rw [e375]; exact kS313) (v := some (.int (1 : Int32))) (fun h => by rw [Bd.returns] at h; cases h)
          have KF := K377
          rw [hG] at KF
          refine ⟨_, _, KF _ ?_, hrun, hended, _, _, rfl, ?_, (by show CHr Z own_EL s.vm s.heap T375.vm T375.heap; rw [hh, e375]; exact CHt), hEnd.1, hEnd.2.1, hEnd.2.2.1, hEnd.2.2.2.mono (by decide) (by decide)⟩
          · show Steps p.tables e below (T375.setTop (mkF m 473 #[.val (.int p1), .val (.int p2), .val (.int p3), .val (.int p4), .val (.int p5), .val (.int shq), .val (.int shg), .val (.int shp), .val (.int qa0), .val (.int qa1), .val (.int qla), .val (.int qb0), .val (.int qb1), .val (.int qlb), .val (.int ga0), .val (.int ga1), .val (.int gla), .val (.int gb0), .val (.int gb1), .val (.int glb), .val (.int pa0), .val (.int pa1), .val (.int pla), .val (.int pb0), .val (.int pb1), .val (.int plb), .val (.ref sr92), .val (.ref sr100), .val (.ref sr112), .val (.ref sr128), .val (.ref sr148), .val (.ref sr172), .val (.ref b200), .val (.int (p5 &&& (3 : Int32))), .val (.ref b271), .val (.int (1 : Int32))] [(.int r375)])) _
            refine XS.iload X375.here hx rfl (hb hby at_473) rfl ?_
            show Steps p.tables e below (T375.setTop (mkF m 475 #[.val (.int p1), .val (.int p2), .val (.int p3), .val (.int p4), .val (.int p5), .val (.int shq), .val (.int shg), .val (.int shp), .val (.int qa0), .val (.int qa1), .val (.int qla), .val (.int qb0), .val (.int qb1), .val (.int qlb), .val (.int ga0), .val (.int ga1), .val (.int gla), .val (.int gb0), .val (.int gb1), .val (.int glb), .val (.int pa0), .val (.int pa1), .val (.int pla), .val (.int pb0), .val (.int pb1), .val (.int plb), .val (.ref sr92), .val (.ref sr100), .val (.ref sr112), .val (.ref sr128), .val (.ref sr148), .val (.ref sr172), .val (.ref b200), .val (.int (p5 &&& (3 : Int32))), .val (.ref b271), .val (.int (1 : Int32))] [(.int (1 : Int32)), (.int r375)])) _
            refine XS.icmpNo X375.here hx rfl (hb hby at_475) rfl (teq hfin).2 ?_
            show Steps p.tables e below (T375.setTop (mkF m 478 #[.val (.int p1), .val (.int p2), .val (.int p3), .val (.int p4), .val (.int p5), .val (.int shq), .val (.int shg), .val (.int shp), .val (.int qa0), .val (.int qa1), .val (.int qla), .val (.int qb0), .val (.int qb1), .val (.int qlb), .val (.int ga0), .val (.int ga1), .val (.int gla), .val (.int gb0), .val (.int gb1), .val (.int glb), .val (.int pa0), .val (.int pa1), .val (.int pla), .val (.int pb0), .val (.int pb1), .val (.int plb), .val (.ref sr92), .val (.ref sr100), .val (.ref sr112), .val (.ref sr128), .val (.ref sr148), .val (.ref sr172), .val (.ref b200), .val (.int (p5 &&& (3 : Int32))), .val (.ref b271), .val (.int (1 : Int32))] [])) _
            refine XS.iconst X375.here hx rfl (hb hby at_478) ?_
            show Steps p.tables e below (T375.setTop (mkF m 479 #[.val (.int p1), .val (.int p2), .val (.int p3), .val (.int p4), .val (.int p5), .val (.int shq), .val (.int shg), .val (.int shp), .val (.int qa0), .val (.int qa1), .val (.int qla), .val (.int qb0), .val (.int qb1), .val (.int qlb), .val (.int ga0), .val (.int ga1), .val (.int gla), .val (.int gb0), .val (.int gb1), .val (.int glb), .val (.int pa0), .val (.int pa1), .val (.int pla), .val (.int pb0), .val (.int pb1), .val (.int plb), .val (.ref sr92), .val (.ref sr100), .val (.ref sr112), .val (.ref sr128), .val (.ref sr148), .val (.ref sr172), .val (.ref b200), .val (.int (p5 &&& (3 : Int32))), .val (.ref b271), .val (.int (1 : Int32))] [(.int (1 : Int32))])) _
            refine XS.goto X375.here hx rfl (pc0 := 479) (pc' := 483) rfl (hb hby at_479) (by decide) (by decide) ?_
            show Steps p.tables e below (T375.setTop (mkF m 483 #[.val (.int p1), .val (.int p2), .val (.int p3), .val (.int p4), .val (.int p5), .val (.int shq), .val (.int shg), .val (.int shp), .val (.int qa0), .val (.int qa1), .val (.int qla), .val (.int qb0), .val (.int qb1), .val (.int qlb), .val (.int ga0), .val (.int ga1), .val (.int gla), .val (.int gb0), .val (.int gb1), .val (.int glb), .val (.int pa0), .val (.int pa1), .val (.int pla), .val (.int pb0), .val (.int pb1), .val (.int plb), .val (.ref sr92), .val (.ref sr100), .val (.ref sr112), .val (.ref sr128), .val (.ref sr148), .val (.ref sr172), .val (.ref b200), .val (.int (p5 &&& (3 : Int32))), .val (.ref b271), .val (.int (1 : Int32))] [(.int (1 : Int32))])) _
            exact retN X375 hx (t := .boolean) Bd.returns (by simp) (hb hby at_483) hr
          · show Q0 n0 _ T375.heap _
            rw [e375]
            exact ⟨rfl, N376⟩
  · have K378 : ∀ t, Steps p.tables e below (T235.setTop (mkF m 487 #[.val (.int p1), .val (.int p2), .val (.int p3), .val (.int p4), .val (.int p5), .val (.int shq), .val (.int shg), .val (.int shp), .val (.int qa0), .val (.int qa1), .val (.int qla), .val (.int qb0), .val (.int qb1), .val (.int qlb), .val (.int ga0), .val (.int ga1), .val (.int gla), .val (.int gb0), .val (.int gb1), .val (.int glb), .val (.int pa0), .val (.int pa1), .val (.int pla), .val (.int pb0), .val (.int pb1), .val (.int plb), .val (.ref sr92), .val (.ref sr100), .val (.ref sr112), .val (.ref sr128), .val (.ref sr148), .val (.ref sr172), .val (.ref b200), .val (.int (p5 &&& (3 : Int32))), .unset, .unset] [(.int (1 : Int32)), (.int (p5 &&& (3 : Int32)))])) t → Steps p.tables e below G t := by
      intro t k
      refine K268 t ?_
      show Steps p.tables e below (T235.setTop (mkF m 387 #[.val (.int p1), .val (.int p2), .val (.int p3), .val (.int p4), .val (.int p5), .val (.int shq), .val (.int shg), .val (.int shp), .val (.int qa0), .val (.int qa1), .val (.int qla), .val (.int qb0), .val (.int qb1), .val (.int qlb), .val (.int ga0), .val (.int ga1), .val (.int gla), .val (.int gb0), .val (.int gb1), .val (.int glb), .val (.int pa0), .val (.int pa1), .val (.int pla), .val (.int pb0), .val (.int pb1), .val (.int plb), .val (.ref sr92), .val (.ref sr100), .val (.ref sr112), .val (.ref sr128), .val (.ref sr148), .val (.ref sr172), .val (.ref b200), .val (.int (p5 &&& (3 : Int32))), .unset, .unset] [(.int (p5 &&& (3 : Int32)))])) _
      refine XS.ifYes X235.here hx rfl (pc0 := 387) (pc' := 484) rfl (hb hby at_387) rfl ((if0 _ _).trans (feq hc269).2) (by decide) (by decide) ?_
      show Steps p.tables e below (T235.setTop (mkF m 484 #[.val (.int p1), .val (.int p2), .val (.int p3), .val (.int p4), .val (.int p5), .val (.int shq), .val (.int shg), .val (.int shp), .val (.int qa0), .val (.int qa1), .val (.int qla), .val (.int qb0), .val (.int qb1), .val (.int qlb), .val (.int ga0), .val (.int ga1), .val (.int gla), .val (.int gb0), .val (.int gb1), .val (.int glb), .val (.int pa0), .val (.int pa1), .val (.int pla), .val (.int pb0), .val (.int pb1), .val (.int plb), .val (.ref sr92), .val (.ref sr100), .val (.ref sr112), .val (.ref sr128), .val (.ref sr148), .val (.ref sr172), .val (.ref b200), .val (.int (p5 &&& (3 : Int32))), .unset, .unset] [])) _
      refine XS.iload X235.here hx rfl (hb hby at_484) rfl ?_
      show Steps p.tables e below (T235.setTop (mkF m 486 #[.val (.int p1), .val (.int p2), .val (.int p3), .val (.int p4), .val (.int p5), .val (.int shq), .val (.int shg), .val (.int shp), .val (.int qa0), .val (.int qa1), .val (.int qla), .val (.int qb0), .val (.int qb1), .val (.int qlb), .val (.int ga0), .val (.int ga1), .val (.int gla), .val (.int gb0), .val (.int gb1), .val (.int glb), .val (.int pa0), .val (.int pa1), .val (.int pla), .val (.int pb0), .val (.int pb1), .val (.int plb), .val (.ref sr92), .val (.ref sr100), .val (.ref sr112), .val (.ref sr128), .val (.ref sr148), .val (.ref sr172), .val (.ref b200), .val (.int (p5 &&& (3 : Int32))), .unset, .unset] [(.int (p5 &&& (3 : Int32)))])) _
      refine XS.iconst X235.here hx rfl (hb hby at_486) ?_
      show Steps p.tables e below (T235.setTop (mkF m 487 #[.val (.int p1), .val (.int p2), .val (.int p3), .val (.int p4), .val (.int p5), .val (.int shq), .val (.int shg), .val (.int shp), .val (.int qa0), .val (.int qa1), .val (.int qla), .val (.int qb0), .val (.int qb1), .val (.int qlb), .val (.int ga0), .val (.int ga1), .val (.int gla), .val (.int gb0), .val (.int gb1), .val (.int glb), .val (.int pa0), .val (.int pa1), .val (.int pla), .val (.int pb0), .val (.int pb1), .val (.int plb), .val (.ref sr92), .val (.ref sr100), .val (.ref sr112), .val (.ref sr128), .val (.ref sr148), .val (.ref sr172), .val (.ref b200), .val (.int (p5 &&& (3 : Int32))), .unset, .unset] [(.int (1 : Int32)), (.int (p5 &&& (3 : Int32)))])) _
      exact k
    by_cases hc379 : (p5 &&& (3 : Int32)) = (1 : Int32)
    · have K380 : ∀ t, Steps p.tables e below (T235.setTop (mkF m 493 #[.val (.int p1), .val (.int p2), .val (.int p3), .val (.int p4), .val (.int p5), .val (.int shq), .val (.int shg), .val (.int shp), .val (.int qa0), .val (.int qa1), .val (.int qla), .val (.int qb0), .val (.int qb1), .val (.int qlb), .val (.int ga0), .val (.int ga1), .val (.int gla), .val (.int gb0), .val (.int gb1), .val (.int glb), .val (.int pa0), .val (.int pa1), .val (.int pla), .val (.int pb0), .val (.int pb1), .val (.int plb), .val (.ref sr92), .val (.ref sr100), .val (.ref sr112), .val (.ref sr128), .val (.ref sr148), .val (.ref sr172), .val (.ref b200), .val (.int (p5 &&& (3 : Int32))), .unset, .unset] [.null, (.ref b200)])) t → Steps p.tables e below G t := by
        intro t k
        refine K378 t ?_
        show Steps p.tables e below (T235.setTop (mkF m 487 #[.val (.int p1), .val (.int p2), .val (.int p3), .val (.int p4), .val (.int p5), .val (.int shq), .val (.int shg), .val (.int shp), .val (.int qa0), .val (.int qa1), .val (.int qla), .val (.int qb0), .val (.int qb1), .val (.int qlb), .val (.int ga0), .val (.int ga1), .val (.int gla), .val (.int gb0), .val (.int gb1), .val (.int glb), .val (.int pa0), .val (.int pa1), .val (.int pla), .val (.int pb0), .val (.int pb1), .val (.int plb), .val (.ref sr92), .val (.ref sr100), .val (.ref sr112), .val (.ref sr128), .val (.ref sr148), .val (.ref sr172), .val (.ref b200), .val (.int (p5 &&& (3 : Int32))), .unset, .unset] [(.int (1 : Int32)), (.int (p5 &&& (3 : Int32)))])) _
        refine XS.icmpNo X235.here hx rfl (hb hby at_487) rfl (teq hc379).2 ?_
        show Steps p.tables e below (T235.setTop (mkF m 490 #[.val (.int p1), .val (.int p2), .val (.int p3), .val (.int p4), .val (.int p5), .val (.int shq), .val (.int shg), .val (.int shp), .val (.int qa0), .val (.int qa1), .val (.int qla), .val (.int qb0), .val (.int qb1), .val (.int qlb), .val (.int ga0), .val (.int ga1), .val (.int gla), .val (.int gb0), .val (.int gb1), .val (.int glb), .val (.int pa0), .val (.int pa1), .val (.int pla), .val (.int pb0), .val (.int pb1), .val (.int plb), .val (.ref sr92), .val (.ref sr100), .val (.ref sr112), .val (.ref sr128), .val (.ref sr148), .val (.ref sr172), .val (.ref b200), .val (.int (p5 &&& (3 : Int32))), .unset, .unset] [])) _
        refine XS.aload X235.here hx rfl (hb hby at_490) rfl rfl ?_
        show Steps p.tables e below (T235.setTop (mkF m 492 #[.val (.int p1), .val (.int p2), .val (.int p3), .val (.int p4), .val (.int p5), .val (.int shq), .val (.int shg), .val (.int shp), .val (.int qa0), .val (.int qa1), .val (.int qla), .val (.int qb0), .val (.int qb1), .val (.int qlb), .val (.int ga0), .val (.int ga1), .val (.int gla), .val (.int gb0), .val (.int gb1), .val (.int glb), .val (.int pa0), .val (.int pa1), .val (.int pla), .val (.int pb0), .val (.int pb1), .val (.int plb), .val (.ref sr92), .val (.ref sr100), .val (.ref sr112), .val (.ref sr128), .val (.ref sr148), .val (.ref sr172), .val (.ref b200), .val (.int (p5 &&& (3 : Int32))), .unset, .unset] [(.ref b200)])) _
        refine XS.aconstNull X235.here hx rfl (hb hby at_492) ?_
        show Steps p.tables e below (T235.setTop (mkF m 493 #[.val (.int p1), .val (.int p2), .val (.int p3), .val (.int p4), .val (.int p5), .val (.int shq), .val (.int shg), .val (.int shp), .val (.int qa0), .val (.int qa1), .val (.int qla), .val (.int qb0), .val (.int qb1), .val (.int qlb), .val (.int ga0), .val (.int ga1), .val (.int gla), .val (.int gb0), .val (.int gb1), .val (.int glb), .val (.int pa0), .val (.int pa1), .val (.int pla), .val (.int pb0), .val (.int pb1), .val (.int plb), .val (.ref sr92), .val (.ref sr100), .val (.ref sr112), .val (.ref sr128), .val (.ref sr148), .val (.ref sr172), .val (.ref b200), .val (.int (p5 &&& (3 : Int32))), .unset, .unset] [.null, (.ref b200)])) _
        exact k
      obtain ⟨cq381, kq381, q381a, q381b, q381c⟩ := isOf hZ rfl E235'
      obtain ⟨_, _, ⟨T381, L381, kk381, nn381⟩, -, X381, ⟨Lc381, hQ381, lq381, yq381, zq381⟩, st381⟩ := X235.virtualBack hx (y := (⟨"com/example/conq/conq/model/GroupPartition", "equals", "(Ljava/lang/Object;)Z"⟩ : MethodName)) (z := (⟨"com/example/conq/conq/model/GroupPartition", "equals", "(Ljava/lang/Object;)Z"⟩ : MethodName)) hown (mvT hZ (hw _ (List.mem_of_getElem? (i := 56) rfl))) (mvT hZ (hw _ (List.mem_of_getElem? (i := 57) rfl))) (notFace_of_selects (args := #[]) (mvT hZ (hw _ (List.mem_of_getElem? (i := 59) rfl)))) (mvT hZ (hw _ (List.mem_of_getElem? (i := 59) rfl))) (mvT hZ (hw _ (List.mem_of_getElem? (i := 58) rfl))) (by decide) (backOf (W := 0) (rm11_n l Z a0 hw [] b200  T235.heap n0 Z265 ) hZ (hw _ (List.mem_of_getElem? (i := 60) rfl)) (hw _ (List.mem_of_getElem? (i := 42) rfl)) (by decide) (by decide)) q381a q381c (g := (mkF m 493 #[.val (.int p1), .val (.int p2), .val (.int p3), .val (.int p4), .val (.int p5), .val (.int shq), .val (.int shg), .val (.int shp), .val (.int qa0), .val (.int qa1), .val (.int qla), .val (.int qb0), .val (.int qb1), .val (.int qlb), .val (.int ga0), .val (.int ga1), .val (.int gla), .val (.int gb0), .val (.int gb1), .val (.int glb), .val (.int pa0), .val (.int pa1), .val (.int pla), .val (.int pb0), .val (.int pb1), .val (.int plb), .val (.ref sr92), .val (.ref sr100), .val (.ref sr112), .val (.ref sr128), .val (.ref sr148), .val (.ref sr172), .val (.ref b200), .val (.int (p5 &&& (3 : Int32))), .unset, .unset] [.null, (.ref b200)])) rfl (by rw [hml]; rfl) (Steps.refl _) (argsL := [.null]) (rest := []) (lenOf pd_7 rfl) rfl (by show 2 * 0 + _ ≤ _; exact Nat.le_of_eq rfl) (hb hby at_493) (fun _ _ => ⟨rfl, rfl, (by decide : 37 + 0 ≤ _), (by decide : 75 + 0 ≤ _)⟩)
      dsimp only [Pt.U, Pt.locs, Pt.cells, Pt.slots] at X381 lq381 yq381 zq381 st381 hQ381
      subst lq381 yq381 zq381
      obtain ⟨rfl, Nq381, e381⟩ := hQ381
      have N382 := Fr.app N236 Nq381
      have K383 : ∀ t, Steps p.tables e below (T381.setTop (mkF m 496 #[.val (.int p1), .val (.int p2), .val (.int p3), .val (.int p4), .val (.int p5), .val (.int shq), .val (.int shg), .val (.int shp), .val (.int qa0), .val (.int qa1), .val (.int qla), .val (.int qb0), .val (.int qb1), .val (.int qlb), .val (.int ga0), .val (.int ga1), .val (.int gla), .val (.int gb0), .val (.int gb1), .val (.int glb), .val (.int pa0), .val (.int pa1), .val (.int pla), .val (.int pb0), .val (.int pb1), .val (.int plb), .val (.ref sr92), .val (.ref sr100), .val (.ref sr112), .val (.ref sr128), .val (.ref sr148), .val (.ref sr172), .val (.ref b200), .val (.int (p5 &&& (3 : Int32))), .unset, .unset] [(.int (0 : Int32))])) t → Steps p.tables e below G t := fun t k => K380 t (st381.trans k)
      have CHt := CH237.trans (CHv.at (s := s) (vm0 := T172.vm) X381 hZ hEL CH237.1)
      obtain ⟨fs, hr, hrun, hended, hEnd⟩ := Jvm.Stand.leaveW (s := s) (vm₁ := T172.vm) X381 hS172 (by rw [e381]; exact kS238) (v := some (.int (1 : Int32))) (fun h => by rw [Bd.returns] at h; cases h)
      have KF := K383
      rw [hG] at KF
      refine ⟨_, _, KF _ ?_, hrun, hended, _, _, rfl, ?_, (by show CHr Z own_EL s.vm s.heap T381.vm T381.heap; rw [hh, e381]; exact CHt), hEnd.1, hEnd.2.1, hEnd.2.2.1, hEnd.2.2.2.mono (by decide) (by decide)⟩
      · show Steps p.tables e below (T381.setTop (mkF m 496 #[.val (.int p1), .val (.int p2), .val (.int p3), .val (.int p4), .val (.int p5), .val (.int shq), .val (.int shg), .val (.int shp), .val (.int qa0), .val (.int qa1), .val (.int qla), .val (.int qb0), .val (.int qb1), .val (.int qlb), .val (.int ga0), .val (.int ga1), .val (.int gla), .val (.int gb0), .val (.int gb1), .val (.int glb), .val (.int pa0), .val (.int pa1), .val (.int pla), .val (.int pb0), .val (.int pb1), .val (.int plb), .val (.ref sr92), .val (.ref sr100), .val (.ref sr112), .val (.ref sr128), .val (.ref sr148), .val (.ref sr172), .val (.ref b200), .val (.int (p5 &&& (3 : Int32))), .unset, .unset] [(.int (0 : Int32))])) _
        refine XS.ifNo X381.here hx rfl (hb hby at_496) rfl ((if0 _ _).trans (teq (by decide)).2) ?_
        show Steps p.tables e below (T381.setTop (mkF m 499 #[.val (.int p1), .val (.int p2), .val (.int p3), .val (.int p4), .val (.int p5), .val (.int shq), .val (.int shg), .val (.int shp), .val (.int qa0), .val (.int qa1), .val (.int qla), .val (.int qb0), .val (.int qb1), .val (.int qlb), .val (.int ga0), .val (.int ga1), .val (.int gla), .val (.int gb0), .val (.int gb1), .val (.int glb), .val (.int pa0), .val (.int pa1), .val (.int pla), .val (.int pb0), .val (.int pb1), .val (.int plb), .val (.ref sr92), .val (.ref sr100), .val (.ref sr112), .val (.ref sr128), .val (.ref sr148), .val (.ref sr172), .val (.ref b200), .val (.int (p5 &&& (3 : Int32))), .unset, .unset] [])) _
        refine XS.iconst X381.here hx rfl (hb hby at_499) ?_
        show Steps p.tables e below (T381.setTop (mkF m 500 #[.val (.int p1), .val (.int p2), .val (.int p3), .val (.int p4), .val (.int p5), .val (.int shq), .val (.int shg), .val (.int shp), .val (.int qa0), .val (.int qa1), .val (.int qla), .val (.int qb0), .val (.int qb1), .val (.int qlb), .val (.int ga0), .val (.int ga1), .val (.int gla), .val (.int gb0), .val (.int gb1), .val (.int glb), .val (.int pa0), .val (.int pa1), .val (.int pla), .val (.int pb0), .val (.int pb1), .val (.int plb), .val (.ref sr92), .val (.ref sr100), .val (.ref sr112), .val (.ref sr128), .val (.ref sr148), .val (.ref sr172), .val (.ref b200), .val (.int (p5 &&& (3 : Int32))), .unset, .unset] [(.int (1 : Int32))])) _
        refine XS.goto X381.here hx rfl (pc0 := 500) (pc' := 504) rfl (hb hby at_500) (by decide) (by decide) ?_
        show Steps p.tables e below (T381.setTop (mkF m 504 #[.val (.int p1), .val (.int p2), .val (.int p3), .val (.int p4), .val (.int p5), .val (.int shq), .val (.int shg), .val (.int shp), .val (.int qa0), .val (.int qa1), .val (.int qla), .val (.int qb0), .val (.int qb1), .val (.int qlb), .val (.int ga0), .val (.int ga1), .val (.int gla), .val (.int gb0), .val (.int gb1), .val (.int glb), .val (.int pa0), .val (.int pa1), .val (.int pla), .val (.int pb0), .val (.int pb1), .val (.int plb), .val (.ref sr92), .val (.ref sr100), .val (.ref sr112), .val (.ref sr128), .val (.ref sr148), .val (.ref sr172), .val (.ref b200), .val (.int (p5 &&& (3 : Int32))), .unset, .unset] [(.int (1 : Int32))])) _
        exact retN X381 hx (t := .boolean) Bd.returns (by simp) (hb hby at_504) hr
      · show Q0 n0 _ T381.heap _
        rw [e381]
        exact ⟨rfl, N382⟩
    · have K384 : ∀ t, Steps p.tables e below (T235.setTop (mkF m 508 #[.val (.int p1), .val (.int p2), .val (.int p3), .val (.int p4), .val (.int p5), .val (.int shq), .val (.int shg), .val (.int shp), .val (.int qa0), .val (.int qa1), .val (.int qla), .val (.int qb0), .val (.int qb1), .val (.int qlb), .val (.int ga0), .val (.int ga1), .val (.int gla), .val (.int gb0), .val (.int gb1), .val (.int glb), .val (.int pa0), .val (.int pa1), .val (.int pla), .val (.int pb0), .val (.int pb1), .val (.int plb), .val (.ref sr92), .val (.ref sr100), .val (.ref sr112), .val (.ref sr128), .val (.ref sr148), .val (.ref sr172), .val (.ref b200), .val (.int (p5 &&& (3 : Int32))), .unset, .unset] [(.int (2 : Int32)), (.int (p5 &&& (3 : Int32)))])) t → Steps p.tables e below G t := by
        intro t k
        refine K378 t ?_
        show Steps p.tables e below (T235.setTop (mkF m 487 #[.val (.int p1), .val (.int p2), .val (.int p3), .val (.int p4), .val (.int p5), .val (.int shq), .val (.int shg), .val (.int shp), .val (.int qa0), .val (.int qa1), .val (.int qla), .val (.int qb0), .val (.int qb1), .val (.int qlb), .val (.int ga0), .val (.int ga1), .val (.int gla), .val (.int gb0), .val (.int gb1), .val (.int glb), .val (.int pa0), .val (.int pa1), .val (.int pla), .val (.int pb0), .val (.int pb1), .val (.int plb), .val (.ref sr92), .val (.ref sr100), .val (.ref sr112), .val (.ref sr128), .val (.ref sr148), .val (.ref sr172), .val (.ref b200), .val (.int (p5 &&& (3 : Int32))), .unset, .unset] [(.int (1 : Int32)), (.int (p5 &&& (3 : Int32)))])) _
        refine XS.icmpYes X235.here hx rfl (pc0 := 487) (pc' := 505) rfl (hb hby at_487) rfl (feq hc379).2 (by decide) (by decide) ?_
        show Steps p.tables e below (T235.setTop (mkF m 505 #[.val (.int p1), .val (.int p2), .val (.int p3), .val (.int p4), .val (.int p5), .val (.int shq), .val (.int shg), .val (.int shp), .val (.int qa0), .val (.int qa1), .val (.int qla), .val (.int qb0), .val (.int qb1), .val (.int qlb), .val (.int ga0), .val (.int ga1), .val (.int gla), .val (.int gb0), .val (.int gb1), .val (.int glb), .val (.int pa0), .val (.int pa1), .val (.int pla), .val (.int pb0), .val (.int pb1), .val (.int plb), .val (.ref sr92), .val (.ref sr100), .val (.ref sr112), .val (.ref sr128), .val (.ref sr148), .val (.ref sr172), .val (.ref b200), .val (.int (p5 &&& (3 : Int32))), .unset, .unset] [])) _
        refine XS.iload X235.here hx rfl (hb hby at_505) rfl ?_
        show Steps p.tables e below (T235.setTop (mkF m 507 #[.val (.int p1), .val (.int p2), .val (.int p3), .val (.int p4), .val (.int p5), .val (.int shq), .val (.int shg), .val (.int shp), .val (.int qa0), .val (.int qa1), .val (.int qla), .val (.int qb0), .val (.int qb1), .val (.int qlb), .val (.int ga0), .val (.int ga1), .val (.int gla), .val (.int gb0), .val (.int gb1), .val (.int glb), .val (.int pa0), .val (.int pa1), .val (.int pla), .val (.int pb0), .val (.int pb1), .val (.int plb), .val (.ref sr92), .val (.ref sr100), .val (.ref sr112), .val (.ref sr128), .val (.ref sr148), .val (.ref sr172), .val (.ref b200), .val (.int (p5 &&& (3 : Int32))), .unset, .unset] [(.int (p5 &&& (3 : Int32)))])) _
        refine XS.iconst X235.here hx rfl (hb hby at_507) ?_
        show Steps p.tables e below (T235.setTop (mkF m 508 #[.val (.int p1), .val (.int p2), .val (.int p3), .val (.int p4), .val (.int p5), .val (.int shq), .val (.int shg), .val (.int shp), .val (.int qa0), .val (.int qa1), .val (.int qla), .val (.int qb0), .val (.int qb1), .val (.int qlb), .val (.int ga0), .val (.int ga1), .val (.int gla), .val (.int gb0), .val (.int gb1), .val (.int glb), .val (.int pa0), .val (.int pa1), .val (.int pla), .val (.int pb0), .val (.int pb1), .val (.int plb), .val (.ref sr92), .val (.ref sr100), .val (.ref sr112), .val (.ref sr128), .val (.ref sr148), .val (.ref sr172), .val (.ref b200), .val (.int (p5 &&& (3 : Int32))), .unset, .unset] [(.int (2 : Int32)), (.int (p5 &&& (3 : Int32)))])) _
        exact k
      by_cases hc385 : (p5 &&& (3 : Int32)) = (2 : Int32)
      · have K386 : ∀ t, Steps p.tables e below (T235.setTop (mkF m 515 #[.val (.int p1), .val (.int p2), .val (.int p3), .val (.int p4), .val (.int p5), .val (.int shq), .val (.int shg), .val (.int shp), .val (.int qa0), .val (.int qa1), .val (.int qla), .val (.int qb0), .val (.int qb1), .val (.int qlb), .val (.int ga0), .val (.int ga1), .val (.int gla), .val (.int gb0), .val (.int gb1), .val (.int glb), .val (.int pa0), .val (.int pa1), .val (.int pla), .val (.int pb0), .val (.int pb1), .val (.int plb), .val (.ref sr92), .val (.ref sr100), .val (.ref sr112), .val (.ref sr128), .val (.ref sr148), .val (.ref sr172), .val (.ref b200), .val (.int (p5 &&& (3 : Int32))), .unset, .unset] [(.ref sr92), (.ref b200)])) t → Steps p.tables e below G t := by
          intro t k
          refine K384 t ?_
          show Steps p.tables e below (T235.setTop (mkF m 508 #[.val (.int p1), .val (.int p2), .val (.int p3), .val (.int p4), .val (.int p5), .val (.int shq), .val (.int shg), .val (.int shp), .val (.int qa0), .val (.int qa1), .val (.int qla), .val (.int qb0), .val (.int qb1), .val (.int qlb), .val (.int ga0), .val (.int ga1), .val (.int gla), .val (.int gb0), .val (.int gb1), .val (.int glb), .val (.int pa0), .val (.int pa1), .val (.int pla), .val (.int pb0), .val (.int pb1), .val (.int plb), .val (.ref sr92), .val (.ref sr100), .val (.ref sr112), .val (.ref sr128), .val (.ref sr148), .val (.ref sr172), .val (.ref b200), .val (.int (p5 &&& (3 : Int32))), .unset, .unset] [(.int (2 : Int32)), (.int (p5 &&& (3 : Int32)))])) _
          refine XS.icmpNo X235.here hx rfl (hb hby at_508) rfl (teq hc385).2 ?_
          show Steps p.tables e below (T235.setTop (mkF m 511 #[.val (.int p1), .val (.int p2), .val (.int p3), .val (.int p4), .val (.int p5), .val (.int shq), .val (.int shg), .val (.int shp), .val (.int qa0), .val (.int qa1), .val (.int qla), .val (.int qb0), .val (.int qb1), .val (.int qlb), .val (.int ga0), .val (.int ga1), .val (.int gla), .val (.int gb0), .val (.int gb1), .val (.int glb), .val (.int pa0), .val (.int pa1), .val (.int pla), .val (.int pb0), .val (.int pb1), .val (.int plb), .val (.ref sr92), .val (.ref sr100), .val (.ref sr112), .val (.ref sr128), .val (.ref sr148), .val (.ref sr172), .val (.ref b200), .val (.int (p5 &&& (3 : Int32))), .unset, .unset] [])) _
          refine XS.aload X235.here hx rfl (hb hby at_511) rfl rfl ?_
          show Steps p.tables e below (T235.setTop (mkF m 513 #[.val (.int p1), .val (.int p2), .val (.int p3), .val (.int p4), .val (.int p5), .val (.int shq), .val (.int shg), .val (.int shp), .val (.int qa0), .val (.int qa1), .val (.int qla), .val (.int qb0), .val (.int qb1), .val (.int qlb), .val (.int ga0), .val (.int ga1), .val (.int gla), .val (.int gb0), .val (.int gb1), .val (.int glb), .val (.int pa0), .val (.int pa1), .val (.int pla), .val (.int pb0), .val (.int pb1), .val (.int plb), .val (.ref sr92), .val (.ref sr100), .val (.ref sr112), .val (.ref sr128), .val (.ref sr148), .val (.ref sr172), .val (.ref b200), .val (.int (p5 &&& (3 : Int32))), .unset, .unset] [(.ref b200)])) _
          refine XS.aload X235.here hx rfl (hb hby at_513) rfl rfl ?_
          show Steps p.tables e below (T235.setTop (mkF m 515 #[.val (.int p1), .val (.int p2), .val (.int p3), .val (.int p4), .val (.int p5), .val (.int shq), .val (.int shg), .val (.int shp), .val (.int qa0), .val (.int qa1), .val (.int qla), .val (.int qb0), .val (.int qb1), .val (.int qlb), .val (.int ga0), .val (.int ga1), .val (.int gla), .val (.int gb0), .val (.int gb1), .val (.int glb), .val (.int pa0), .val (.int pa1), .val (.int pla), .val (.int pb0), .val (.int pb1), .val (.int plb), .val (.ref sr92), .val (.ref sr100), .val (.ref sr112), .val (.ref sr128), .val (.ref sr148), .val (.ref sr172), .val (.ref b200), .val (.int (p5 &&& (3 : Int32))), .unset, .unset] [(.ref sr92), (.ref b200)])) _
          exact k
        obtain ⟨cq387, kq387, q387a, q387b, q387c⟩ := isOf hZ rfl E235'
        obtain ⟨_, _, ⟨T387, L387, kk387, nn387⟩, -, X387, ⟨Lc387, hQ387, lq387, yq387, zq387⟩, st387⟩ := X235.virtualBack hx (y := (⟨"com/example/conq/conq/model/GroupPartition", "equals", "(Ljava/lang/Object;)Z"⟩ : MethodName)) (z := (⟨"com/example/conq/conq/model/GroupPartition", "equals", "(Ljava/lang/Object;)Z"⟩ : MethodName)) hown (mvT hZ (hw _ (List.mem_of_getElem? (i := 56) rfl))) (mvT hZ (hw _ (List.mem_of_getElem? (i := 57) rfl))) (notFace_of_selects (args := #[]) (mvT hZ (hw _ (List.mem_of_getElem? (i := 59) rfl)))) (mvT hZ (hw _ (List.mem_of_getElem? (i := 59) rfl))) (mvT hZ (hw _ (List.mem_of_getElem? (i := 58) rfl))) (by decide) (backOf (W := 0) (rm11_s l Z a0 hw [] b200 sr92 T235.heap n0 Z265 f240) hZ (hw _ (List.mem_of_getElem? (i := 60) rfl)) (hw _ (List.mem_of_getElem? (i := 42) rfl)) (by decide) (by decide)) q387a q387c (g := (mkF m 515 #[.val (.int p1), .val (.int p2), .val (.int p3), .val (.int p4), .val (.int p5), .val (.int shq), .val (.int shg), .val (.int shp), .val (.int qa0), .val (.int qa1), .val (.int qla), .val (.int qb0), .val (.int qb1), .val (.int qlb), .val (.int ga0), .val (.int ga1), .val (.int gla), .val (.int gb0), .val (.int gb1), .val (.int glb), .val (.int pa0), .val (.int pa1), .val (.int pla), .val (.int pb0), .val (.int pb1), .val (.int plb), .val (.ref sr92), .val (.ref sr100), .val (.ref sr112), .val (.ref sr128), .val (.ref sr148), .val (.ref sr172), .val (.ref b200), .val (.int (p5 &&& (3 : Int32))), .unset, .unset] [(.ref sr92), (.ref b200)])) rfl (by rw [hml]; rfl) (Steps.refl _) (argsL := [(.ref sr92)]) (rest := []) (lenOf pd_7 rfl) rfl (by show 2 * 0 + _ ≤ _; exact Nat.le_of_eq rfl) (hb hby at_515) (fun _ _ => ⟨rfl, rfl, (by decide : 37 + 0 ≤ _), (by decide : 75 + 0 ≤ _)⟩)
        dsimp only [Pt.U, Pt.locs, Pt.cells, Pt.slots] at X387 lq387 yq387 zq387 st387 hQ387
        subst lq387 yq387 zq387
        obtain ⟨rfl, Nq387, e387⟩ := hQ387
        have N388 := Fr.app N236 Nq387
        have K389 : ∀ t, Steps p.tables e below (T387.setTop (mkF m 518 #[.val (.int p1), .val (.int p2), .val (.int p3), .val (.int p4), .val (.int p5), .val (.int shq), .val (.int shg), .val (.int shp), .val (.int qa0), .val (.int qa1), .val (.int qla), .val (.int qb0), .val (.int qb1), .val (.int qlb), .val (.int ga0), .val (.int ga1), .val (.int gla), .val (.int gb0), .val (.int gb1), .val (.int glb), .val (.int pa0), .val (.int pa1), .val (.int pla), .val (.int pb0), .val (.int pb1), .val (.int plb), .val (.ref sr92), .val (.ref sr100), .val (.ref sr112), .val (.ref sr128), .val (.ref sr148), .val (.ref sr172), .val (.ref b200), .val (.int (p5 &&& (3 : Int32))), .unset, .unset] [(.int (0 : Int32))])) t → Steps p.tables e below G t := fun t k => K386 t (st387.trans k)
        have CHt := CH237.trans (CHv.at (s := s) (vm0 := T172.vm) X387 hZ hEL CH237.1)
        obtain ⟨fs, hr, hrun, hended, hEnd⟩ := Jvm.Stand.leaveW (s := s) (vm₁ := T172.vm) X387 hS172 (by rw [e387]; exact kS238) (v := some (.int (1 : Int32))) (fun h => by rw [Bd.returns] at h; cases h)
        have KF := K389
        rw [hG] at KF
        refine ⟨_, _, KF _ ?_, hrun, hended, _, _, rfl, ?_, (by show CHr Z own_EL s.vm s.heap T387.vm T387.heap; rw [hh, e387]; exact CHt), hEnd.1, hEnd.2.1, hEnd.2.2.1, hEnd.2.2.2.mono (by decide) (by decide)⟩
        · show Steps p.tables e below (T387.setTop (mkF m 518 #[.val (.int p1), .val (.int p2), .val (.int p3), .val (.int p4), .val (.int p5), .val (.int shq), .val (.int shg), .val (.int shp), .val (.int qa0), .val (.int qa1), .val (.int qla), .val (.int qb0), .val (.int qb1), .val (.int qlb), .val (.int ga0), .val (.int ga1), .val (.int gla), .val (.int gb0), .val (.int gb1), .val (.int glb), .val (.int pa0), .val (.int pa1), .val (.int pla), .val (.int pb0), .val (.int pb1), .val (.int plb), .val (.ref sr92), .val (.ref sr100), .val (.ref sr112), .val (.ref sr128), .val (.ref sr148), .val (.ref sr172), .val (.ref b200), .val (.int (p5 &&& (3 : Int32))), .unset, .unset] [(.int (0 : Int32))])) _
          refine XS.ifNo X387.here hx rfl (hb hby at_518) rfl ((if0 _ _).trans (teq (by decide)).2) ?_
          show Steps p.tables e below (T387.setTop (mkF m 521 #[.val (.int p1), .val (.int p2), .val (.int p3), .val (.int p4), .val (.int p5), .val (.int shq), .val (.int shg), .val (.int shp), .val (.int qa0), .val (.int qa1), .val (.int qla), .val (.int qb0), .val (.int qb1), .val (.int qlb), .val (.int ga0), .val (.int ga1), .val (.int gla), .val (.int gb0), .val (.int gb1), .val (.int glb), .val (.int pa0), .val (.int pa1), .val (.int pla), .val (.int pb0), .val (.int pb1), .val (.int plb), .val (.ref sr92), .val (.ref sr100), .val (.ref sr112), .val (.ref sr128), .val (.ref sr148), .val (.ref sr172), .val (.ref b200), .val (.int (p5 &&& (3 : Int32))), .unset, .unset] [])) _
          refine XS.iconst X387.here hx rfl (hb hby at_521) ?_
          show Steps p.tables e below (T387.setTop (mkF m 522 #[.val (.int p1), .val (.int p2), .val (.int p3), .val (.int p4), .val (.int p5), .val (.int shq), .val (.int shg), .val (.int shp), .val (.int qa0), .val (.int qa1), .val (.int qla), .val (.int qb0), .val (.int qb1), .val (.int qlb), .val (.int ga0), .val (.int ga1), .val (.int gla), .val (.int gb0), .val (.int gb1), .val (.int glb), .val (.int pa0), .val (.int pa1), .val (.int pla), .val (.int pb0), .val (.int pb1), .val (.int plb), .val (.ref sr92), .val (.ref sr100), .val (.ref sr112), .val (.ref sr128), .val (.ref sr148), .val (.ref sr172), .val (.ref b200), .val (.int (p5 &&& (3 : Int32))), .unset, .unset] [(.int (1 : Int32))])) _
          refine XS.goto X387.here hx rfl (pc0 := 522) (pc' := 526) rfl (hb hby at_522) (by decide) (by decide) ?_
          show Steps p.tables e below (T387.setTop (mkF m 526 #[.val (.int p1), .val (.int p2), .val (.int p3), .val (.int p4), .val (.int p5), .val (.int shq), .val (.int shg), .val (.int shp), .val (.int qa0), .val (.int qa1), .val (.int qla), .val (.int qb0), .val (.int qb1), .val (.int qlb), .val (.int ga0), .val (.int ga1), .val (.int gla), .val (.int gb0), .val (.int gb1), .val (.int glb), .val (.int pa0), .val (.int pa1), .val (.int pla), .val (.int pb0), .val (.int pb1), .val (.int plb), .val (.ref sr92), .val (.ref sr100), .val (.ref sr112), .val (.ref sr128), .val (.ref sr148), .val (.ref sr172), .val (.ref b200), .val (.int (p5 &&& (3 : Int32))), .unset, .unset] [(.int (1 : Int32))])) _
          exact retN X387 hx (t := .boolean) Bd.returns (by simp) (hb hby at_526) hr
        · show Q0 n0 _ T387.heap _
          rw [e387]
          exact ⟨rfl, N388⟩
      · have K390 : ∀ t, Steps p.tables e below (T235.setTop (mkF m 527 #[.val (.int p1), .val (.int p2), .val (.int p3), .val (.int p4), .val (.int p5), .val (.int shq), .val (.int shg), .val (.int shp), .val (.int qa0), .val (.int qa1), .val (.int qla), .val (.int qb0), .val (.int qb1), .val (.int qlb), .val (.int ga0), .val (.int ga1), .val (.int gla), .val (.int gb0), .val (.int gb1), .val (.int glb), .val (.int pa0), .val (.int pa1), .val (.int pla), .val (.int pb0), .val (.int pb1), .val (.int plb), .val (.ref sr92), .val (.ref sr100), .val (.ref sr112), .val (.ref sr128), .val (.ref sr148), .val (.ref sr172), .val (.ref b200), .val (.int (p5 &&& (3 : Int32))), .unset, .unset] [])) t → Steps p.tables e below G t := by
          intro t k
          refine K384 t ?_
          show Steps p.tables e below (T235.setTop (mkF m 508 #[.val (.int p1), .val (.int p2), .val (.int p3), .val (.int p4), .val (.int p5), .val (.int shq), .val (.int shg), .val (.int shp), .val (.int qa0), .val (.int qa1), .val (.int qla), .val (.int qb0), .val (.int qb1), .val (.int qlb), .val (.int ga0), .val (.int ga1), .val (.int gla), .val (.int gb0), .val (.int gb1), .val (.int glb), .val (.int pa0), .val (.int pa1), .val (.int pla), .val (.int pb0), .val (.int pb1), .val (.int plb), .val (.ref sr92), .val (.ref sr100), .val (.ref sr112), .val (.ref sr128), .val (.ref sr148), .val (.ref sr172), .val (.ref b200), .val (.int (p5 &&& (3 : Int32))), .unset, .unset] [(.int (2 : Int32)), (.int (p5 &&& (3 : Int32)))])) _
          refine XS.icmpYes X235.here hx rfl (pc0 := 508) (pc' := 527) rfl (hb hby at_508) rfl (feq hc385).2 (by decide) (by decide) ?_
          show Steps p.tables e below (T235.setTop (mkF m 527 #[.val (.int p1), .val (.int p2), .val (.int p3), .val (.int p4), .val (.int p5), .val (.int shq), .val (.int shg), .val (.int shp), .val (.int qa0), .val (.int qa1), .val (.int qla), .val (.int qb0), .val (.int qb1), .val (.int qlb), .val (.int ga0), .val (.int ga1), .val (.int gla), .val (.int gb0), .val (.int gb1), .val (.int glb), .val (.int pa0), .val (.int pa1), .val (.int pla), .val (.int pb0), .val (.int pb1), .val (.int plb), .val (.ref sr92), .val (.ref sr100), .val (.ref sr112), .val (.ref sr128), .val (.ref sr148), .val (.ref sr172), .val (.ref b200), .val (.int (p5 &&& (3 : Int32))), .unset, .unset] [])) _
          exact k
        obtain ⟨T391, h391, X391, e391, E391, A391, D391, -, st391⟩ := newO X235 hx hZ hown (hw _ (List.mem_of_getElem? (i := 73) rfl)) (hw _ (List.mem_of_getElem? (i := 74) rfl)) (hw _ (List.mem_of_getElem? (i := 75) rfl)) rfl (g := (mkF m 527 #[.val (.int p1), .val (.int p2), .val (.int p3), .val (.int p4), .val (.int p5), .val (.int shq), .val (.int shg), .val (.int shp), .val (.int qa0), .val (.int qa1), .val (.int qla), .val (.int qb0), .val (.int qb1), .val (.int qlb), .val (.int ga0), .val (.int ga1), .val (.int gla), .val (.int gb0), .val (.int gb1), .val (.int glb), .val (.int pa0), .val (.int pa1), .val (.int pla), .val (.int pb0), .val (.int pb1), .val (.int plb), .val (.ref sr92), .val (.ref sr100), .val (.ref sr112), .val (.ref sr128), .val (.ref sr148), .val (.ref sr172), .val (.ref b200), .val (.int (p5 &&& (3 : Int32))), .unset, .unset] [])) rfl (hb hby at_527) (by decide) (by decide)
        obtain ⟨b391, g391⟩ : ∃ z, z = T235.heap.size := ⟨_, rfl⟩
        rw [← g391] at A391 D391 st391
        have ne_sr92_b391 : sr92 ≠ b391 := Nat.ne_of_lt (Nat.lt_of_lt_of_le f240.lt (Nat.le_of_eq g391.symm))
        have ne_sb92_b391 : sb92 ≠ b391 := Nat.ne_of_lt (Nat.lt_of_lt_of_le f243.lt (Nat.le_of_eq g391.symm))
        have ne_sr100_b391 : sr100 ≠ b391 := Nat.ne_of_lt (Nat.lt_of_lt_of_le f244.lt (Nat.le_of_eq g391.symm))
        have ne_sb100_b391 : sb100 ≠ b391 := Nat.ne_of_lt (Nat.lt_of_lt_of_le f247.lt (Nat.le_of_eq g391.symm))
        have ne_sr112_b391 : sr112 ≠ b391 := Nat.ne_of_lt (Nat.lt_of_lt_of_le f248.lt (Nat.le_of_eq g391.symm))
        have ne_sb112_b391 : sb112 ≠ b391 := Nat.ne_of_lt (Nat.lt_of_lt_of_le f251.lt (Nat.le_of_eq g391.symm))
        have ne_sr128_b391 : sr128 ≠ b391 := Nat.ne_of_lt (Nat.lt_of_lt_of_le f252.lt (Nat.le_of_eq g391.symm))
        have ne_sb128_b391 : sb128 ≠ b391 := Nat.ne_of_lt (Nat.lt_of_lt_of_le f255.lt (Nat.le_of_eq g391.symm))
        have ne_sr148_b391 : sr148 ≠ b391 := Nat.ne_of_lt (Nat.lt_of_lt_of_le f256.lt (Nat.le_of_eq g391.symm))
        have ne_sb148_b391 : sb148 ≠ b391 := Nat.ne_of_lt (Nat.lt_of_lt_of_le f259.lt (Nat.le_of_eq g391.symm))
        have ne_sr172_b391 : sr172 ≠ b391 := Nat.ne_of_lt (Nat.lt_of_lt_of_le f260.lt (Nat.le_of_eq g391.symm))
        have ne_sb172_b391 : sb172 ≠ b391 := Nat.ne_of_lt (Nat.lt_of_lt_of_le f263.lt (Nat.le_of_eq g391.symm))
        have ne_b200_b391 : b200 ≠ b391 := Nat.ne_of_lt (Nat.lt_of_lt_of_le E235'.lt (Nat.le_of_eq g391.symm))
        have g_b391 : n0 ≤ b391 := Nat.le_trans Z265 (Nat.le_of_eq g391.symm)
        have sz_b391 : h0.size ≤ b391 := Nat.le_trans KP266.1 (Nat.le_of_eq g391.symm)
        have CH392 : CHr Z own_EL s.vm h0 T172.vm h391 := CH237.trans (CHr.ext E391 CH237.1)
        have kS393 := Nat.le_trans kS238 E391.1
        have f394 := f239.ext E391
        have f395 := f240.ext E391
        have f396 := f241.ext E391
        have f397 := f242.ext E391
        have f398 := f243.ext E391
        have f399 := f244.ext E391
        have f400 := f245.ext E391
        have f401 := f246.ext E391
        have f402 := f247.ext E391
        have f403 := f248.ext E391
        have f404 := f249.ext E391
        have f405 := f250.ext E391
        have f406 := f251.ext E391
        have f407 := f252.ext E391
        have f408 := f253.ext E391
        have f409 := f254.ext E391
        have f410 := f255.ext E391
        have f411 := f256.ext E391
        have f412 := f257.ext E391
        have f413 := f258.ext E391
        have f414 := f259.ext E391
        have f415 := f260.ext E391
        have f416 := f261.ext E391
        have f417 := f262.ext E391
        have f418 := f263.ext E391
        have f419 := E235'.ext E391
        have f420 := G0235.ext E391
        have f421 := G1235.ext E391
        have f422 := G2235.ext E391
        have Z423 : n0 ≤ h391.size := Nat.le_trans Z265 E391.1
        have KP424 : Keep h0 h391 [] := KP266.ext E391
        have K425 : ∀ t, Steps p.tables e below (T391.setTop (mkF m 530 #[.val (.int p1), .val (.int p2), .val (.int p3), .val (.int p4), .val (.int p5), .val (.int shq), .val (.int shg), .val (.int shp), .val (.int qa0), .val (.int qa1), .val (.int qla), .val (.int qb0), .val (.int qb1), .val (.int qlb), .val (.int ga0), .val (.int ga1), .val (.int gla), .val (.int gb0), .val (.int gb1), .val (.int glb), .val (.int pa0), .val (.int pa1), .val (.int pla), .val (.int pb0), .val (.int pb1), .val (.int plb), .val (.ref sr92), .val (.ref sr100), .val (.ref sr112), .val (.ref sr128), .val (.ref sr148), .val (.ref sr172), .val (.ref b200), .val (.int (p5 &&& (3 : Int32))), .unset, .unset] [(.ref b391)])) t → Steps p.tables e below G t := fun t k => K390 t (st391 t k)
        have f426 : Fld Z h391 b391 "com/example/conq/conq/model/PopRequest" "group" "Ljava/lang/String;" .null := D391 (Or.inr (hw _ (List.mem_of_getElem? (i := 84) rfl))) (ty := (.object "java/lang/String")) (by decide)
        have f427 : Fld Z h391 b391 "com/example/conq/conq/model/PopRequest" "partition" "Ljava/lang/String;" .null := D391 (Or.inr (hw _ (List.mem_of_getElem? (i := 86) rfl))) (ty := (.object "java/lang/String")) (by decide)
        have f428 : Fld Z h391 b391 "com/example/conq/conq/model/PopRequest" "batch" "I" (.int (0 : Int32)) := D391 (Or.inr (hw _ (List.mem_of_getElem? (i := 88) rfl))) (ty := .int) (by decide)
        have f429 : Fld Z h391 b391 "com/example/conq/conq/model/PopRequest" "leaseSeconds" "I" (.int (0 : Int32)) := D391 (Or.inr (hw _ (List.mem_of_getElem? (i := 90) rfl))) (ty := .int) (by decide)
        have f430 : Fld Z h391 b391 "com/example/conq/conq/model/PopRequest" "waitMs" "I" (.int (0 : Int32)) := D391 (Or.inr (hw _ (List.mem_of_getElem? (i := 92) rfl))) (ty := .int) (by decide)
        have f431 : Fld Z h391 b391 "com/example/conq/conq/model/PopRequest" "deadLettering" "Lcom/example/conq/conq/model/DeadLettering;" .null := D391 (Or.inr (hw _ (List.mem_of_getElem? (i := 94) rfl))) (ty := (.object "com/example/conq/conq/model/DeadLettering")) (by decide)
        have K432 : ∀ t, Steps p.tables e below (T391.setTop (mkF m 538 #[.val (.int p1), .val (.int p2), .val (.int p3), .val (.int p4), .val (.int p5), .val (.int shq), .val (.int shg), .val (.int shp), .val (.int qa0), .val (.int qa1), .val (.int qla), .val (.int qb0), .val (.int qb1), .val (.int qlb), .val (.int ga0), .val (.int ga1), .val (.int gla), .val (.int gb0), .val (.int gb1), .val (.int glb), .val (.int pa0), .val (.int pa1), .val (.int pla), .val (.int pb0), .val (.int pb1), .val (.int plb), .val (.ref sr92), .val (.ref sr100), .val (.ref sr112), .val (.ref sr128), .val (.ref sr148), .val (.ref sr172), .val (.ref b200), .val (.int (p5 &&& (3 : Int32))), .unset, .unset] [(.int (0 : Int32)), (.int (1 : Int32)), (.int (1 : Int32)), (.ref sr112), (.ref sr100), (.ref b391), (.ref b391)])) t → Steps p.tables e below G t := by
          intro t k
          refine K425 t ?_
          show Steps p.tables e below (T391.setTop (mkF m 530 #[.val (.int p1), .val (.int p2), .val (.int p3), .val (.int p4), .val (.int p5), .val (.int shq), .val (.int shg), .val (.int shp), .val (.int qa0), .val (.int qa1), .val (.int qla), .val (.int qb0), .val (.int qb1), .val (.int qlb), .val (.int ga0), .val (.int ga1), .val (.int gla), .val (.int gb0), .val (.int gb1), .val (.int glb), .val (.int pa0), .val (.int pa1), .val (.int pla), .val (.int pb0), .val (.int pb1), .val (.int plb), .val (.ref sr92), .val (.ref sr100), .val (.ref sr112), .val (.ref sr128), .val (.ref sr148), .val (.ref sr172), .val (.ref b200), .val (.int (p5 &&& (3 : Int32))), .unset, .unset] [(.ref b391)])) _
          refine XS.dup X391.here hx rfl (hb hby at_530) rfl rfl ?_
          show Steps p.tables e below (T391.setTop (mkF m 531 #[.val (.int p1), .val (.int p2), .val (.int p3), .val (.int p4), .val (.int p5), .val (.int shq), .val (.int shg), .val (.int shp), .val (.int qa0), .val (.int qa1), .val (.int qla), .val (.int qb0), .val (.int qb1), .val (.int qlb), .val (.int ga0), .val (.int ga1), .val (.int gla), .val (.int gb0), .val (.int gb1), .val (.int glb), .val (.int pa0), .val (.int pa1), .val (.int pla), .val (.int pb0), .val (.int pb1), .val (.int plb), .val (.ref sr92), .val (.ref sr100), .val (.ref sr112), .val (.ref sr128), .val (.ref sr148), .val (.ref sr172), .val (.ref b200), .val (.int (p5 &&& (3 : Int32))), .unset, .unset] [(.ref b391), (.ref b391)])) _
          refine XS.aload X391.here hx rfl (hb hby at_531) rfl rfl ?_
          show Steps p.tables e below (T391.setTop (mkF m 533 #[.val (.int p1), .val (.int p2), .val (.int p3), .val (.int p4), .val (.int p5), .val (.int shq), .val (.int shg), .val (.int shp), .val (.int qa0), .val (.int qa1), .val (.int qla), .val (.int qb0), .val (.int qb1), .val (.int qlb), .val (.int ga0), .val (.int ga1), .val (.int gla), .val (.int gb0), .val (.int gb1), .val (.int glb), .val (.int pa0), .val (.int pa1), .val (.int pla), .val (.int pb0), .val (.int pb1), .val (.int plb), .val (.ref sr92), .val (.ref sr100), .val (.ref sr112), .val (.ref sr128), .val (.ref sr148), .val (.ref sr172), .val (.ref b200), .val (.int (p5 &&& (3 : Int32))), .unset, .unset] [(.ref sr100), (.ref b391), (.ref b391)])) _
          refine XS.aload X391.here hx rfl (hb hby at_533) rfl rfl ?_
          show Steps p.tables e below (T391.setTop (mkF m 535 #[.val (.int p1), .val (.int p2), .val (.int p3), .val (.int p4), .val (.int p5), .val (.int shq), .val (.int shg), .val (.int shp), .val (.int qa0), .val (.int qa1), .val (.int qla), .val (.int qb0), .val (.int qb1), .val (.int qlb), .val (.int ga0), .val (.int ga1), .val (.int gla), .val (.int gb0), .val (.int gb1), .val (.int glb), .val (.int pa0), .val (.int pa1), .val (.int pla), .val (.int pb0), .val (.int pb1), .val (.int plb), .val (.ref sr92), .val (.ref sr100), .val (.ref sr112), .val (.ref sr128), .val (.ref sr148), .val (.ref sr172), .val (.ref b200), .val (.int (p5 &&& (3 : Int32))), .unset, .unset] [(.ref sr112), (.ref sr100), (.ref b391), (.ref b391)])) _
          refine XS.iconst X391.here hx rfl (hb hby at_535) ?_
          show Steps p.tables e below (T391.setTop (mkF m 536 #[.val (.int p1), .val (.int p2), .val (.int p3), .val (.int p4), .val (.int p5), .val (.int shq), .val (.int shg), .val (.int shp), .val (.int qa0), .val (.int qa1), .val (.int qla), .val (.int qb0), .val (.int qb1), .val (.int qlb), .val (.int ga0), .val (.int ga1), .val (.int gla), .val (.int gb0), .val (.int gb1), .val (.int glb), .val (.int pa0), .val (.int pa1), .val (.int pla), .val (.int pb0), .val (.int pb1), .val (.int plb), .val (.ref sr92), .val (.ref sr100), .val (.ref sr112), .val (.ref sr128), .val (.ref sr148), .val (.ref sr172), .val (.ref b200), .val (.int (p5 &&& (3 : Int32))), .unset, .unset] [(.int (1 : Int32)), (.ref sr112), (.ref sr100), (.ref b391), (.ref b391)])) _
          refine XS.iconst X391.here hx rfl (hb hby at_536) ?_
          show Steps p.tables e below (T391.setTop (mkF m 537 #[.val (.int p1), .val (.int p2), .val (.int p3), .val (.int p4), .val (.int p5), .val (.int shq), .val (.int shg), .val (.int shp), .val (.int qa0), .val (.int qa1), .val (.int qla), .val (.int qb0), .val (.int qb1), .val (.int qlb), .val (.int ga0), .val (.int ga1), .val (.int gla), .val (.int gb0), .val (.int gb1), .val (.int glb), .val (.int pa0), .val (.int pa1), .val (.int pla), .val (.int pb0), .val (.int pb1), .val (.int plb), .val (.ref sr92), .val (.ref sr100), .val (.ref sr112), .val (.ref sr128), .val (.ref sr148), .val (.ref sr172), .val (.ref b200), .val (.int (p5 &&& (3 : Int32))), .unset, .unset] [(.int (1 : Int32)), (.int (1 : Int32)), (.ref sr112), (.ref sr100), (.ref b391), (.ref b391)])) _
          refine XS.iconst X391.here hx rfl (hb hby at_537) ?_
          show Steps p.tables e below (T391.setTop (mkF m 538 #[.val (.int p1), .val (.int p2), .val (.int p3), .val (.int p4), .val (.int p5), .val (.int shq), .val (.int shg), .val (.int shp), .val (.int qa0), .val (.int qa1), .val (.int qla), .val (.int qb0), .val (.int qb1), .val (.int qlb), .val (.int ga0), .val (.int ga1), .val (.int gla), .val (.int gb0), .val (.int gb1), .val (.int glb), .val (.int pa0), .val (.int pa1), .val (.int pla), .val (.int pb0), .val (.int pb1), .val (.int plb), .val (.ref sr92), .val (.ref sr100), .val (.ref sr112), .val (.ref sr128), .val (.ref sr148), .val (.ref sr172), .val (.ref b200), .val (.int (p5 &&& (3 : Int32))), .unset, .unset] [(.int (0 : Int32)), (.int (1 : Int32)), (.int (1 : Int32)), (.ref sr112), (.ref sr100), (.ref b391), (.ref b391)])) _
          exact k
        obtain ⟨_, _, ⟨T433, L433, kk433, nn433⟩, -, X433, ⟨Lc433, hQ433, lq433, yq433, zq433⟩, st433⟩ := X391.specialBack hx (y := (⟨"com/example/conq/conq/model/PopRequest", "<init>", "(Ljava/lang/String;Ljava/lang/String;III)V"⟩ : MethodName)) rfl hown (mvT hZ (hw _ (List.mem_of_getElem? (i := 76) rfl))) (mvT hZ (hw _ (List.mem_of_getElem? (i := 77) rfl))) (mvT hZ (hw _ (List.mem_of_getElem? (i := 78) rfl))) (by decide) (backOf (W := 1) (rm14 l Z a0 hw [] b391 sr100 sr112 (1 : Int32) (1 : Int32) (0 : Int32) h391 n0 Z423 A391 f426 f427 f428 f429 f430 f431 g_b391) hZ (hw _ (List.mem_of_getElem? (i := 78) rfl)) (hw _ (List.mem_of_getElem? (i := 75) rfl)) (by decide) (by decide)) (g := (mkF m 538 #[.val (.int p1), .val (.int p2), .val (.int p3), .val (.int p4), .val (.int p5), .val (.int shq), .val (.int shg), .val (.int shp), .val (.int qa0), .val (.int qa1), .val (.int qla), .val (.int qb0), .val (.int qb1), .val (.int qlb), .val (.int ga0), .val (.int ga1), .val (.int gla), .val (.int gb0), .val (.int gb1), .val (.int glb), .val (.int pa0), .val (.int pa1), .val (.int pla), .val (.int pb0), .val (.int pb1), .val (.int plb), .val (.ref sr92), .val (.ref sr100), .val (.ref sr112), .val (.ref sr128), .val (.ref sr148), .val (.ref sr172), .val (.ref b200), .val (.int (p5 &&& (3 : Int32))), .unset, .unset] [(.int (0 : Int32)), (.int (1 : Int32)), (.int (1 : Int32)), (.ref sr112), (.ref sr100), (.ref b391), (.ref b391)])) rfl (by rw [hml]; rfl) (Steps.refl _) (a := b391) (argsL := [(.ref sr100), (.ref sr112), (.int (1 : Int32)), (.int (1 : Int32)), (.int (0 : Int32))]) (rest := [(.ref b391)]) (lenOf pd_12 rfl) rfl (by show 2 * 0 + _ ≤ _; exact Nat.le_of_eq rfl) (hb hby at_538) (fun _ _ => ⟨rfl, e391, (by decide : 38 + 0 ≤ _), (by decide : 81 + 0 ≤ _)⟩)
        dsimp only [Pt.U, Pt.locs, Pt.cells, Pt.slots] at X433 lq433 yq433 zq433 st433 hQ433
        subst lq433 yq433 zq433
        obtain ⟨rfl, Nq433, K433, E433'⟩ := hQ433
        have N434 := Fr.app N236 Nq433
        have CH435 : CHr Z own_EL s.vm h0 T172.vm T433.heap := CH392.trans (CHr.keep K433 (allS (Safe.exa hZ.alike A391 (by decide) (by decide)) all0) CH392.1)
        have kS436 := Nat.le_trans kS393 K433.1
        have f437 := f394.keep K433 (allS g_b391 all0)
        have f438 := f395.keep K433
        have f439 := f396.keep K433 (ninS ne_sr92_b391 nin0)
        have f440 := f397.keep K433 (ninS ne_sr92_b391 nin0)
        have f441 := f398.keep K433 (ninS ne_sb92_b391 nin0)
        have f442 := f399.keep K433
        have f443 := f400.keep K433 (ninS ne_sr100_b391 nin0)
        have f444 := f401.keep K433 (ninS ne_sr100_b391 nin0)
        have f445 := f402.keep K433 (ninS ne_sb100_b391 nin0)
        have f446 := f403.keep K433
        have f447 := f404.keep K433 (ninS ne_sr112_b391 nin0)
        have f448 := f405.keep K433 (ninS ne_sr112_b391 nin0)
        have f449 := f406.keep K433 (ninS ne_sb112_b391 nin0)
        have f450 := f407.keep K433
        have f451 := f408.keep K433 (ninS ne_sr128_b391 nin0)
        have f452 := f409.keep K433 (ninS ne_sr128_b391 nin0)
        have f453 := f410.keep K433 (ninS ne_sb128_b391 nin0)
        have f454 := f411.keep K433
        have f455 := f412.keep K433 (ninS ne_sr148_b391 nin0)
        have f456 := f413.keep K433 (ninS ne_sr148_b391 nin0)
        have f457 := f414.keep K433 (ninS ne_sb148_b391 nin0)
        have f458 := f415.keep K433
        have f459 := f416.keep K433 (ninS ne_sr172_b391 nin0)
        have f460 := f417.keep K433 (ninS ne_sr172_b391 nin0)
        have f461 := f418.keep K433 (ninS ne_sb172_b391 nin0)
        have f462 := f419.keep K433
        have f463 := f420.keep K433 (ninS ne_b200_b391 nin0)
        have f464 := f421.keep K433 (ninS ne_b200_b391 nin0)
        have f465 := f422.keep K433 (ninS ne_b200_b391 nin0)
        have f466 := A391.keep K433
        have Z467 : n0 ≤ T433.heap.size := Nat.le_trans Z423 K433.1
        have KP468 : Keep h0 T433.heap [] := KP424.trans K433 (allS (Or.inr sz_b391) all0)
        have K469 : ∀ t, Steps p.tables e below (T433.setTop (mkF m 541 #[.val (.int p1), .val (.int p2), .val (.int p3), .val (.int p4), .val (.int p5), .val (.int shq), .val (.int shg), .val (.int shp), .val (.int qa0), .val (.int qa1), .val (.int qla), .val (.int qb0), .val (.int qb1), .val (.int qlb), .val (.int ga0), .val (.int ga1), .val (.int gla), .val (.int gb0), .val (.int gb1), .val (.int glb), .val (.int pa0), .val (.int pa1), .val (.int pla), .val (.int pb0), .val (.int pb1), .val (.int plb), .val (.ref sr92), .val (.ref sr100), .val (.ref sr112), .val (.ref sr128), .val (.ref sr148), .val (.ref sr172), .val (.ref b200), .val (.int (p5 &&& (3 : Int32))), .unset, .unset] [(.ref b391)])) t → Steps p.tables e below G t := fun t k => K432 t (st433.trans k)
        have K470 : ∀ t, Steps p.tables e below (T433.setTop (mkF m 547 #[.val (.int p1), .val (.int p2), .val (.int p3), .val (.int p4), .val (.int p5), .val (.int shq), .val (.int shg), .val (.int shp), .val (.int qa0), .val (.int qa1), .val (.int qla), .val (.int qb0), .val (.int qb1), .val (.int qlb), .val (.int ga0), .val (.int ga1), .val (.int gla), .val (.int gb0), .val (.int gb1), .val (.int glb), .val (.int pa0), .val (.int pa1), .val (.int pla), .val (.int pb0), .val (.int pb1), .val (.int plb), .val (.ref sr92), .val (.ref sr100), .val (.ref sr112), .val (.ref sr128), .val (.ref sr148), .val (.ref sr172), .val (.ref b200), .val (.int (p5 &&& (3 : Int32))), .val (.ref b391), .unset] [(.ref b391), (.ref b200)])) t → Steps p.tables e below G t := by
          intro t k
          refine K469 t ?_
          show Steps p.tables e below (T433.setTop (mkF m 541 #[.val (.int p1), .val (.int p2), .val (.int p3), .val (.int p4), .val (.int p5), .val (.int shq), .val (.int shg), .val (.int shp), .val (.int qa0), .val (.int qa1), .val (.int qla), .val (.int qb0), .val (.int qb1), .val (.int qlb), .val (.int ga0), .val (.int ga1), .val (.int gla), .val (.int gb0), .val (.int gb1), .val (.int glb), .val (.int pa0), .val (.int pa1), .val (.int pla), .val (.int pb0), .val (.int pb1), .val (.int plb), .val (.ref sr92), .val (.ref sr100), .val (.ref sr112), .val (.ref sr128), .val (.ref sr148), .val (.ref sr172), .val (.ref b200), .val (.int (p5 &&& (3 : Int32))), .unset, .unset] [(.ref b391)])) _
          refine XS.astore X433.here hx rfl (hb hby at_541) rfl rfl (l' := #[.val (.int p1), .val (.int p2), .val (.int p3), .val (.int p4), .val (.int p5), .val (.int shq), .val (.int shg), .val (.int shp), .val (.int qa0), .val (.int qa1), .val (.int qla), .val (.int qb0), .val (.int qb1), .val (.int qlb), .val (.int ga0), .val (.int ga1), .val (.int gla), .val (.int gb0), .val (.int gb1), .val (.int glb), .val (.int pa0), .val (.int pa1), .val (.int pla), .val (.int pb0), .val (.int pb1), .val (.int plb), .val (.ref sr92), .val (.ref sr100), .val (.ref sr112), .val (.ref sr128), .val (.ref sr148), .val (.ref sr172), .val (.ref b200), .val (.int (p5 &&& (3 : Int32))), .val (.ref b391), .unset]) rfl ?_
          show Steps p.tables e below (T433.setTop (mkF m 543 #[.val (.int p1), .val (.int p2), .val (.int p3), .val (.int p4), .val (.int p5), .val (.int shq), .val (.int shg), .val (.int shp), .val (.int qa0), .val (.int qa1), .val (.int qla), .val (.int qb0), .val (.int qb1), .val (.int qlb), .val (.int ga0), .val (.int ga1), .val (.int gla), .val (.int gb0), .val (.int gb1), .val (.int glb), .val (.int pa0), .val (.int pa1), .val (.int pla), .val (.int pb0), .val (.int pb1), .val (.int plb), .val (.ref sr92), .val (.ref sr100), .val (.ref sr112), .val (.ref sr128), .val (.ref sr148), .val (.ref sr172), .val (.ref b200), .val (.int (p5 &&& (3 : Int32))), .val (.ref b391), .unset] [])) _
          refine XS.aload X433.here hx rfl (hb hby at_543) rfl rfl ?_
          show Steps p.tables e below (T433.setTop (mkF m 545 #[.val (.int p1), .val (.int p2), .val (.int p3), .val (.int p4), .val (.int p5), .val (.int shq), .val (.int shg), .val (.int shp), .val (.int qa0), .val (.int qa1), .val (.int qla), .val (.int qb0), .val (.int qb1), .val (.int qlb), .val (.int ga0), .val (.int ga1), .val (.int gla), .val (.int gb0), .val (.int gb1), .val (.int glb), .val (.int pa0), .val (.int pa1), .val (.int pla), .val (.int pb0), .val (.int pb1), .val (.int plb), .val (.ref sr92), .val (.ref sr100), .val (.ref sr112), .val (.ref sr128), .val (.ref sr148), .val (.ref sr172), .val (.ref b200), .val (.int (p5 &&& (3 : Int32))), .val (.ref b391), .unset] [(.ref b200)])) _
          refine XS.aload X433.here hx rfl (hb hby at_545) rfl rfl ?_
          show Steps p.tables e below (T433.setTop (mkF m 547 #[.val (.int p1), .val (.int p2), .val (.int p3), .val (.int p4), .val (.int p5), .val (.int shq), .val (.int shg), .val (.int shp), .val (.int qa0), .val (.int qa1), .val (.int qla), .val (.int qb0), .val (.int qb1), .val (.int qlb), .val (.int ga0), .val (.int ga1), .val (.int gla), .val (.int gb0), .val (.int gb1), .val (.int glb), .val (.int pa0), .val (.int pa1), .val (.int pla), .val (.int pb0), .val (.int pb1), .val (.int plb), .val (.ref sr92), .val (.ref sr100), .val (.ref sr112), .val (.ref sr128), .val (.ref sr148), .val (.ref sr172), .val (.ref b200), .val (.int (p5 &&& (3 : Int32))), .val (.ref b391), .unset] [(.ref b391), (.ref b200)])) _
          exact k
        obtain ⟨cq471, kq471, q471a, q471b, q471c⟩ := isOf hZ rfl f462
        obtain ⟨_, _, ⟨T471, L471, kk471, nn471⟩, -, X471, ⟨Lc471, hQ471, lq471, yq471, zq471⟩, st471⟩ := X433.virtualBack hx (y := (⟨"com/example/conq/conq/model/GroupPartition", "equals", "(Ljava/lang/Object;)Z"⟩ : MethodName)) (z := (⟨"com/example/conq/conq/model/GroupPartition", "equals", "(Ljava/lang/Object;)Z"⟩ : MethodName)) hown (mvT hZ (hw _ (List.mem_of_getElem? (i := 56) rfl))) (mvT hZ (hw _ (List.mem_of_getElem? (i := 57) rfl))) (notFace_of_selects (args := #[]) (mvT hZ (hw _ (List.mem_of_getElem? (i := 59) rfl)))) (mvT hZ (hw _ (List.mem_of_getElem? (i := 59) rfl))) (mvT hZ (hw _ (List.mem_of_getElem? (i := 58) rfl))) (by decide) (backOf (W := 0) (rm11_q l Z a0 hw [] b200 b391 T433.heap n0 Z467 E433') hZ (hw _ (List.mem_of_getElem? (i := 60) rfl)) (hw _ (List.mem_of_getElem? (i := 42) rfl)) (by decide) (by decide)) q471a q471c (g := (mkF m 547 #[.val (.int p1), .val (.int p2), .val (.int p3), .val (.int p4), .val (.int p5), .val (.int shq), .val (.int shg), .val (.int shp), .val (.int qa0), .val (.int qa1), .val (.int qla), .val (.int qb0), .val (.int qb1), .val (.int qlb), .val (.int ga0), .val (.int ga1), .val (.int gla), .val (.int gb0), .val (.int gb1), .val (.int glb), .val (.int pa0), .val (.int pa1), .val (.int pla), .val (.int pb0), .val (.int pb1), .val (.int plb), .val (.ref sr92), .val (.ref sr100), .val (.ref sr112), .val (.ref sr128), .val (.ref sr148), .val (.ref sr172), .val (.ref b200), .val (.int (p5 &&& (3 : Int32))), .val (.ref b391), .unset] [(.ref b391), (.ref b200)])) rfl (by rw [hml]; rfl) (Steps.refl _) (argsL := [(.ref b391)]) (rest := []) (lenOf pd_7 rfl) rfl (by show 2 * 0 + _ ≤ _; exact Nat.le_of_eq rfl) (hb hby at_547) (fun _ _ => ⟨rfl, rfl, (by decide : 38 + 0 ≤ _), (by decide : 81 + 0 ≤ _)⟩)
        dsimp only [Pt.U, Pt.locs, Pt.cells, Pt.slots] at X471 lq471 yq471 zq471 st471 hQ471
        subst lq471 yq471 zq471
        obtain ⟨rfl, Nq471, e471⟩ := hQ471
        have N472 := Fr.app N434 Nq471
        have K473 : ∀ t, Steps p.tables e below (T471.setTop (mkF m 550 #[.val (.int p1), .val (.int p2), .val (.int p3), .val (.int p4), .val (.int p5), .val (.int shq), .val (.int shg), .val (.int shp), .val (.int qa0), .val (.int qa1), .val (.int qla), .val (.int qb0), .val (.int qb1), .val (.int qlb), .val (.int ga0), .val (.int ga1), .val (.int gla), .val (.int gb0), .val (.int gb1), .val (.int glb), .val (.int pa0), .val (.int pa1), .val (.int pla), .val (.int pb0), .val (.int pb1), .val (.int plb), .val (.ref sr92), .val (.ref sr100), .val (.ref sr112), .val (.ref sr128), .val (.ref sr148), .val (.ref sr172), .val (.ref b200), .val (.int (p5 &&& (3 : Int32))), .val (.ref b391), .unset] [(.int (0 : Int32))])) t → Steps p.tables e below G t := fun t k => K470 t (st471.trans k)
        have CHt := CH435.trans (CHv.at (s := s) (vm0 := T172.vm) X471 hZ hEL CH435.1)
        obtain ⟨fs, hr, hrun, hended, hEnd⟩ := Jvm.Stand.leaveW (s := s) (vm₁ := T172.vm) X471 hS172 (by rw [e471]; exact kS436) (v := some (.int (1 : Int32))) (fun h => by rw [Bd.returns] at h; cases h)
        have KF := K473
        rw [hG] at KF
        refine ⟨_, _, KF _ ?_, hrun, hended, _, _, rfl, ?_, (by show CHr Z own_EL s.vm s.heap T471.vm T471.heap; rw [hh, e471]; exact CHt), hEnd.1, hEnd.2.1, hEnd.2.2.1, hEnd.2.2.2.mono (by decide) (by decide)⟩
        · show Steps p.tables e below (T471.setTop (mkF m 550 #[.val (.int p1), .val (.int p2), .val (.int p3), .val (.int p4), .val (.int p5), .val (.int shq), .val (.int shg), .val (.int shp), .val (.int qa0), .val (.int qa1), .val (.int qla), .val (.int qb0), .val (.int qb1), .val (.int qlb), .val (.int ga0), .val (.int ga1), .val (.int gla), .val (.int gb0), .val (.int gb1), .val (.int glb), .val (.int pa0), .val (.int pa1), .val (.int pla), .val (.int pb0), .val (.int pb1), .val (.int plb), .val (.ref sr92), .val (.ref sr100), .val (.ref sr112), .val (.ref sr128), .val (.ref sr148), .val (.ref sr172), .val (.ref b200), .val (.int (p5 &&& (3 : Int32))), .val (.ref b391), .unset] [(.int (0 : Int32))])) _
          refine XS.ifNo X471.here hx rfl (hb hby at_550) rfl ((if0 _ _).trans (teq (by decide)).2) ?_
          show Steps p.tables e below (T471.setTop (mkF m 553 #[.val (.int p1), .val (.int p2), .val (.int p3), .val (.int p4), .val (.int p5), .val (.int shq), .val (.int shg), .val (.int shp), .val (.int qa0), .val (.int qa1), .val (.int qla), .val (.int qb0), .val (.int qb1), .val (.int qlb), .val (.int ga0), .val (.int ga1), .val (.int gla), .val (.int gb0), .val (.int gb1), .val (.int glb), .val (.int pa0), .val (.int pa1), .val (.int pla), .val (.int pb0), .val (.int pb1), .val (.int plb), .val (.ref sr92), .val (.ref sr100), .val (.ref sr112), .val (.ref sr128), .val (.ref sr148), .val (.ref sr172), .val (.ref b200), .val (.int (p5 &&& (3 : Int32))), .val (.ref b391), .unset] [])) _
          refine XS.iconst X471.here hx rfl (hb hby at_553) ?_
          show Steps p.tables e below (T471.setTop (mkF m 554 #[.val (.int p1), .val (.int p2), .val (.int p3), .val (.int p4), .val (.int p5), .val (.int shq), .val (.int shg), .val (.int shp), .val (.int qa0), .val (.int qa1), .val (.int qla), .val (.int qb0), .val (.int qb1), .val (.int qlb), .val (.int ga0), .val (.int ga1), .val (.int gla), .val (.int gb0), .val (.int gb1), .val (.int glb), .val (.int pa0), .val (.int pa1), .val (.int pla), .val (.int pb0), .val (.int pb1), .val (.int plb), .val (.ref sr92), .val (.ref sr100), .val (.ref sr112), .val (.ref sr128), .val (.ref sr148), .val (.ref sr172), .val (.ref b200), .val (.int (p5 &&& (3 : Int32))), .val (.ref b391), .unset] [(.int (1 : Int32))])) _
          refine XS.goto X471.here hx rfl (pc0 := 554) (pc' := 558) rfl (hb hby at_554) (by decide) (by decide) ?_
          show Steps p.tables e below (T471.setTop (mkF m 558 #[.val (.int p1), .val (.int p2), .val (.int p3), .val (.int p4), .val (.int p5), .val (.int shq), .val (.int shg), .val (.int shp), .val (.int qa0), .val (.int qa1), .val (.int qla), .val (.int qb0), .val (.int qb1), .val (.int qlb), .val (.int ga0), .val (.int ga1), .val (.int gla), .val (.int gb0), .val (.int gb1), .val (.int glb), .val (.int pa0), .val (.int pa1), .val (.int pla), .val (.int pb0), .val (.int pb1), .val (.int plb), .val (.ref sr92), .val (.ref sr100), .val (.ref sr112), .val (.ref sr128), .val (.ref sr148), .val (.ref sr172), .val (.ref b200), .val (.int (p5 &&& (3 : Int32))), .val (.ref b391), .unset] [(.int (1 : Int32))])) _
          exact retN X471 hx (t := .boolean) Bd.returns (by simp) (hb hby at_558) hr
        · show Q0 n0 _ T471.heap _
          rw [e471]
          exact ⟨rfl, N472⟩
set_option maxRecDepth 65536 in
set_option maxHeartbeats 40000000 in
theorem comes_1 {Post : Tables → Env → Array Value → State → Outcome → State → Prop} (hpost : ∀ tb e args s v u, (limb_1_1.after args s (.returned v) u = true ∧ limb_1_2.after args s (.returned v) u = true ∧ True) → ReturnedEndW s (.returned v) u (Jvm.fieldLocs frame_1_writes args s ++ Jvm.arrayLocs frame_1_arrays args s ++ Jvm.staticLocs frame_1_statics s) 56 1216 → Post tb e args s (.returned v) u) :
    ArmFor flags0 classFile x code maxLocals ret World_1 tables_1 room_1 Calls_1 rest_1 Pre_1 Post := by
  intro l hfl _ _ p e ha hc hk s m args below hf hA hF happ hP
  obtain ⟨hcalls, hrest, hpre⟩ := hP
  obtain ⟨-, -, -, hnamed, -, -, -, hat⟩ := (Spec.applies_iff hf).mp happ
  obtain ⟨hg, hn⟩ := and_e (Cond.before_iff.mp (show (Jvm.Cond.and given_1 narrow_1).before args s = true from hpre))
  obtain ⟨gc, gr0⟩ := and_e hg
  obtain ⟨ga0, gr1⟩ := and_e gr0
  obtain ⟨ga1, gr2⟩ := and_e gr1
  obtain ⟨ga2, gr3⟩ := and_e gr2
  obtain ⟨ga3, gr4⟩ := and_e gr3
  have ga4 := gr4
  obtain ⟨w0, w1, w2, w3, w4, rfl⟩ : ∃ w0 w1 w2 w3 w4 : Value, args = #[w0, w1, w2, w3, w4] := by
    have hs : args.size = 5 := by simpa [Cond.value, given_1] using gc
    obtain ⟨L⟩ := args
    match L, hs with
    | [w0, w1, w2, w3, w4], _ => exact ⟨w0, w1, w2, w3, w4, rfl⟩
  have hw := fun d (hd : d ∈ tables_1) => atoms_spec (ws := Jvm.Cond.code x code maxLocals ret :: tables_1) hat d (List.mem_cons_of_mem _ hd)
  obtain ⟨i0, ei0⟩ := is_v ga0
  obtain rfl : w0 = (.int i0) := Option.some.inj ei0
  obtain ⟨i1, ei1⟩ := is_v ga1
  obtain rfl : w1 = (.int i1) := Option.some.inj ei1
  obtain ⟨i2, ei2⟩ := is_v ga2
  obtain rfl : w2 = (.int i2) := Option.some.inj ei2
  obtain ⟨i3, ei3⟩ := is_v ga3
  obtain rfl : w3 = (.int i3) := Option.some.inj ei3
  obtain ⟨i4, ei4⟩ := is_v ga4
  obtain rfl : w4 = (.int i4) := Option.some.inj ei4
  obtain ⟨hsets, hown0⟩ := atoms_of _ (rest_1_c_eq ▸ (show rest_1_c.before _ s = true from hrest))
  have k0 := hsets _ (List.mem_of_getElem? (i := 0) rfl)
  have k1 := Cond.before_iff.mp (hsets _ (List.mem_of_getElem? (i := 1) rfl))
  have k2 := hsets _ (List.mem_of_getElem? (i := 2) rfl)
  obtain ⟨cs, evc⟩ := is_v k1
  have SC := Sta.start evc (Or.inl k0)
  have hcs : ¬ cs = 0 := gotF (Cond.eq_ints evc rfl) (not_v (r := true) (Cond.before_iff.mp k2))
  have hEL : EW s #[.int i0, .int i1, .int i2, .int i3, .int i4] own_EL := EW.cons (hw _ (List.mem_of_getElem? (i := 37) rfl)) (by intro c hc; simp at hc) EW.nil
  have hCH : CHv s own_EL s.vm s.heap := CHv.start hEL (fun p hp => by cases List.mem_singleton.mp hp; exact hcalls.1 ("java/lang/String", 7) (List.mem_singleton.mpr rfl)) k2 (hw _ (List.mem_of_getElem? (i := 26) rfl)) (hw _ (List.mem_of_getElem? (i := 8) rfl))
  obtain ⟨n, o, h1, h2, h3, _, L, rfl, ⟨rfl, N⟩, -, hq⟩ := rm0 l s _ hw tables_1 i0 i1 i2 i3 i4 cs s.heap s.heap.size (Nat.le_refl _) hEL SC hcs (Old.start s)  p e ha hc hk s m _ below hf ((Spec.applies_iff_loose hf).mp happ).1 ⟨rfl, State.Warmed39.refl s, rfl, hCH⟩ trivial
  refine ⟨n, _, h1, h2, h3, hpost _ _ _ _ _ _ ⟨Cond.after_iff.mpr rfl, Cond.after_iff.mpr (eq_i res_at (Term.int_eval (1)) rfl), trivial⟩ ⟨hq.1, hq.2.1, hq.2.2.1, (hq.2.2.2.sift fun y hy => Or.inr (N y hy)).mono (by decide) (by decide)⟩⟩
theorem main_1_1 : Claimed_1_1 := comes_1 fun _ _ _ _ _ _ h hF => ⟨h.1, hF⟩
theorem main_1_2 : Claimed_1_2 := comes_1 fun _ _ _ _ _ _ h hF => ⟨h.2.1, hF⟩
end Jvm.Pilot.@@N@@
namespace Jvm.Pilot.@@N@@
open Jvm Jvm.ClassFile Sem Op Lib Jvm.Free Jvm.Stand Jvm.Pilot.@@N@@.Jvm.D
/-! MADE BY PROGRAM (witnessworld.py) out of the Statement's table words and the real class files: 21 classes; the members and pool entries that the words name. The judged class is class 1, her method 4. -/
namespace start1
open Jvm.ClassFile
def u (s : String) : CpInfo := .utf8 (stringToUtf16 s)
/-- a pool by its gaps: so many unusable entries, then the entry; so many at the end -/
def gap : Nat → List CpInfo → List CpInfo
  | 0, r => r
  | n + 1, r => .unusable :: gap n r
def poolList (es : List (Nat × CpInfo)) (last : Nat) : List CpInfo := es.foldr (fun e r => gap e.1 (e.2 :: r)) (gap last [])
def pool (es : List (Nat × CpInfo)) (last : Nat) : Array CpInfo := ⟨poolList es last⟩
def fileOf (pool : Array CpInfo) (this : Nat) (attrs : Array Attribute := #[]) (ms : Array MethodInfo := #[]) (fl : Nat := 33) (sup : Nat := 0) (ifs : Array Nat := #[]) (fds : Array FieldInfo := #[]) : ClassFile where
  minorVersion := 0
  majorVersion := 65
  constantPool := pool
  accessFlags := fl
  thisClass := this
  superClass := sup
  interfaces := ifs
  fields := fds
  methods := ms
  attributes := attrs
def plain (name : String) (sup : Option ClassId) : Class where
  name := name
  kind := .ordinary
  loader := none
  accessFlags := 33
  super := sup
  interfaces := #[]
  cf := none
  fields := #[]
  methods := #[]
  instanceTypes := #[]
  staticTypes := #[]
  resolved := #[]
  callSites := []
  init := .initialized
  statics := none
  mirror := none

def pool0 : Array CpInfo := pool [(5, u "<init>"), (0, u "()V"), (1, .class_ 10), (1, u "java/lang/Object")] 113

def k0c0 : Code := { maxStack := 0, maxLocals := 1, code := object_method_1_code, exceptionTable := #[], attributes := #[] }
def k0m0 : Method := { name := "<init>", desc := "()V", sig := { parameters := [], returnType := none }, accessFlags := 1, code := some k0c0 }
/-- java/lang/Object -/
def k0 : Class := { plain "java/lang/Object" none with
  accessFlags := 33
  interfaces := #[]
  cf := some (fileOf pool0 8 #[] #[{ accessFlags := 1, nameIndex := 5, descriptorIndex := 6, attributes := #[] }] 33 0 #[] #[])
  fields := #[]
  methods := #[k0m0]
  instanceTypes := #[]
  staticTypes := #[]
  resolved := Array.replicate 124 none
  statics := none }

def pool1 : Array CpInfo := pool [(2, .class_ 4), (1, u "java/lang/Object"), (0, u "<init>"), (0, u "()V"), (0, .class_ 8), (0, u "java/lang/String"), (0, .methodref 7 10), (0, .nameAndType 5 11), (0, u "([C)V"), (0, .methodref 13 14), (0, .class_ 15), (0, .nameAndType 16 17), (0, u "com/example/conq/conq/model/GroupPartitionEqualsPinLaw"), (0, u "len"), (0, u "(I)I"), (0, .methodref 13 19), (0, .nameAndType 20 21), (0, u "mk"), (0, u "(III)Ljava/lang/String;"), (0, .class_ 23), (0, u "com/example/conq/conq/model/GroupPartition"), (0, .methodref 22 25), (0, .nameAndType 5 26), (0, u "(Ljava/lang/String;Ljava/lang/String;Ljava/lang/String;)V"), (0, .methodref 13 28), (0, .nameAndType 29 30), (0, u "same"), (0, u "(IIIIII)Z"), (0, .methodref 22 32), (0, .nameAndType 33 34), (0, u "equals"), (0, u "(Ljava/lang/Object;)Z"), (0, .class_ 36), (0, u "com/example/conq/conq/model/PopRequest"), (0, .methodref 35 38), (0, .nameAndType 5 39), (0, u "(Ljava/lang/String;Ljava/lang/String;III)V"), (3, u "law"), (0, u "(IIIII)Z")] 2

def k1m0 : Method := { name := "<init>", desc := "()V", sig := { parameters := [], returnType := none }, accessFlags := 1, code := none }
def k1c1 : Code := { maxStack := 2, maxLocals := 1, code := method_2_code, exceptionTable := #[], attributes := #[] }
def k1m1 : Method := { name := "len", desc := "(I)I", sig := { parameters := [.int], returnType := some .int }, accessFlags := 10, code := some k1c1 }
def k1c2 : Code := { maxStack := 6, maxLocals := 3, code := method_3_code, exceptionTable := #[], attributes := #[] }
def k1m2 : Method := { name := "mk", desc := "(III)Ljava/lang/String;", sig := { parameters := [.int, .int, .int], returnType := some (.object "java/lang/String") }, accessFlags := 10, code := some k1c2 }
def k1c3 : Code := { maxStack := 2, maxLocals := 6, code := method_4_code, exceptionTable := #[], attributes := #[] }
def k1m3 : Method := { name := "same", desc := "(IIIIII)Z", sig := { parameters := [.int, .int, .int, .int, .int, .int], returnType := some .boolean }, accessFlags := 10, code := some k1c3 }
def k1c4 : Code := { maxStack := 7, maxLocals := 36, code := code, exceptionTable := #[], attributes := #[] }
def k1m4 : Method := { name := "law", desc := "(IIIII)Z", sig := { parameters := [.int, .int, .int, .int, .int], returnType := some .boolean }, accessFlags := 9, code := some k1c4 }
/-- com/example/conq/conq/model/GroupPartitionEqualsPinLaw -/
def k1 : Class := { plain "com/example/conq/conq/model/GroupPartitionEqualsPinLaw" (some 0) with
  accessFlags := 49
  interfaces := #[]
  cf := some (fileOf pool1 13 #[] #[{ accessFlags := 1, nameIndex := 5, descriptorIndex := 6, attributes := #[] }, { accessFlags := 10, nameIndex := 16, descriptorIndex := 17, attributes := #[] }, { accessFlags := 10, nameIndex := 20, descriptorIndex := 21, attributes := #[] }, { accessFlags := 10, nameIndex := 29, descriptorIndex := 30, attributes := #[] }, { accessFlags := 9, nameIndex := 43, descriptorIndex := 44, attributes := #[] }] 49 2 #[] #[])
  fields := #[]
  methods := #[k1m0, k1m1, k1m2, k1m3, k1m4]
  instanceTypes := #[]
  staticTypes := #[]
  resolved := Array.replicate 47 none
  statics := none }

def pool2 : Array CpInfo := pool [(1, .class_ 2), (0, u "java/io/Serializable"), (0, .class_ 4), (0, u "java/lang/Object")] 2

/-- java/io/Serializable -/
def k2 : Class := { plain "java/io/Serializable" (some 0) with
  accessFlags := 1537
  interfaces := #[]
  cf := some (fileOf pool2 1 #[] #[] 1537 3 #[] #[])
  fields := #[]
  methods := #[]
  instanceTypes := #[]
  staticTypes := #[]
  resolved := Array.replicate 7 none
  statics := none }

def pool3 : Array CpInfo := pool [(1, .class_ 2), (0, u "java/lang/Comparable"), (0, .class_ 4), (0, u "java/lang/Object")] 7

/-- java/lang/Comparable -/
def k3 : Class := { plain "java/lang/Comparable" (some 0) with
  accessFlags := 1537
  interfaces := #[]
  cf := some (fileOf pool3 1 #[] #[] 1537 3 #[] #[])
  fields := #[]
  methods := #[]
  instanceTypes := #[]
  staticTypes := #[]
  resolved := Array.replicate 12 none
  statics := none }

def pool4 : Array CpInfo := pool [(2, .class_ 4), (1, u "java/lang/CharSequence"), (42, .class_ 48), (0, u "java/lang/CharSequence$1CodePointIterator"), (10, .class_ 60), (0, u "java/lang/CharSequence$1CharIterator"), (5, .class_ 67), (0, u "java/lang/Object")] 63

/-- java/lang/CharSequence -/
def k4 : Class := { plain "java/lang/CharSequence" (some 0) with
  accessFlags := 1537
  interfaces := #[]
  cf := some (fileOf pool4 2 #[.nestMembers #[47, 59]] #[] 1537 66 #[] #[])
  fields := #[]
  methods := #[]
  instanceTypes := #[]
  staticTypes := #[]
  resolved := Array.replicate 131 none
  statics := none }

def pool5 : Array CpInfo := pool [(1, .class_ 2), (0, u "java/lang/constant/Constable"), (0, .class_ 4), (0, u "java/lang/Object")] 6

/-- java/lang/constant/Constable -/
def k5 : Class := { plain "java/lang/constant/Constable" (some 0) with
  accessFlags := 1537
  interfaces := #[]
  cf := some (fileOf pool5 1 #[] #[] 1537 3 #[] #[])
  fields := #[]
  methods := #[]
  instanceTypes := #[]
  staticTypes := #[]
  resolved := Array.replicate 11 none
  statics := none }

def pool6 : Array CpInfo := pool [(1, .class_ 2), (0, u "java/lang/constant/ConstantDesc"), (0, .class_ 4), (0, u "java/lang/Object")] 32

/-- java/lang/constant/ConstantDesc -/
def k6 : Class := { plain "java/lang/constant/ConstantDesc" (some 0) with
  accessFlags := 1537
  interfaces := #[]
  cf := some (fileOf pool6 1 #[] #[] 1537 3 #[] #[])
  fields := #[]
  methods := #[]
  instanceTypes := #[]
  staticTypes := #[]
  resolved := Array.replicate 37 none
  statics := none }

def pool7 : Array CpInfo := pool [(1, .methodref 2 3), (0, .class_ 4), (0, .nameAndType 5 6), (0, u "java/lang/Object"), (0, u "<init>"), (0, u "()V"), (0, .string 8), (0, u ""), (0, .fieldref 10 11), (0, .class_ 12), (0, .nameAndType 13 14), (0, u "java/lang/String"), (0, u "value"), (0, u "[B"), (0, .fieldref 10 16), (0, .nameAndType 17 18), (0, u "coder"), (0, u "B"), (2, u "hash"), (0, u "I"), (2, u "hashIsZero"), (0, u "Z"), (0, .methodref 10 28), (0, .nameAndType 5 29), (0, u "([CIILjava/lang/Void;)V"), (8, .fieldref 10 39), (0, .nameAndType 40 26), (0, u "COMPACT_STRINGS"), (1, .class_ 44), (1, u "java/lang/StringUTF16"), (0, u "compress"), (1, .methodref 42 48), (0, .nameAndType 49 50), (0, u "coderFromArrayLen"), (0, u "([BI)B"), (56, .class_ 109), (1, u "java/lang/StringLatin1"), (67, .methodref 42 178), (0, .nameAndType 45 179), (0, u "([CII)[B"), (361, .methodref 107 542), (0, .nameAndType 543 544), (0, u "equals"), (0, u "([B[B)Z"), (28, u "(Ljava/lang/Object;)Z"), (1, .class_ 576), (0, u "java/lang/CharSequence"), (22, u "CASE_INSENSITIVE_ORDER"), (0, u "Ljava/util/Comparator;"), (409, u "([C)V"), (90, u "serialPersistentFields"), (0, u "[Ljava/io/ObjectStreamField;"), (0, .class_ 1104), (0, u "java/lang/String$CaseInsensitiveComparator"), (1, .class_ 1107), (0, u "java/io/Serializable"), (0, .class_ 1109), (0, u "java/lang/Comparable"), (0, .class_ 1111), (0, u "java/lang/constant/Constable"), (0, .class_ 1113), (0, u "java/lang/constant/ConstantDesc"), (2, u "serialVersionUID"), (0, u "J"), (3, u "REPL"), (0, u "C"), (2, u "LATIN1"), (1, u "UTF16")] 323

def k7m0 : Method := { name := "<init>", desc := "()V", sig := { parameters := [], returnType := none }, accessFlags := 1, code := none }
def k7c1 : Code := { maxStack := 5, maxLocals := 2, code := jdk_42_method_3_code, exceptionTable := #[], attributes := #[] }
def k7m1 : Method := { name := "<init>", desc := "([C)V", sig := { parameters := [(.array .char)], returnType := none }, accessFlags := 1, code := some k7c1 }
def k7c2 : Code := { maxStack := 2, maxLocals := 3, code := jdk_42_method_66_code, exceptionTable := #[], attributes := #[] }
def k7m2 : Method := { name := "equals", desc := "(Ljava/lang/Object;)Z", sig := { parameters := [(.object "java/lang/Object")], returnType := some .boolean }, accessFlags := 1, code := some k7c2 }
def k7c3 : Code := { maxStack := 4, maxLocals := 6, code := jdk_42_method_149_code, exceptionTable := #[], attributes := #[] }
def k7m3 : Method := { name := "<init>", desc := "([CIILjava/lang/Void;)V", sig := { parameters := [(.array .char), .int, .int, (.object "java/lang/Void")], returnType := none }, accessFlags := 2, code := some k7c3 }
/-- java/lang/String -/
def k7 : Class := { plain "java/lang/String" (some 0) with
  accessFlags := 49
  interfaces := #[2, 3, 4, 5, 6]
  cf := some (fileOf pool7 10 #[.nestMembers #[1103]] #[{ accessFlags := 1, nameIndex := 5, descriptorIndex := 6, attributes := #[] }, { accessFlags := 1, nameIndex := 5, descriptorIndex := 1010, attributes := #[] }, { accessFlags := 1, nameIndex := 543, descriptorIndex := 573, attributes := #[] }, { accessFlags := 2, nameIndex := 5, descriptorIndex := 29, attributes := #[] }] 49 2 #[1106, 1108, 575, 1110, 1112] #[{ accessFlags := 18, nameIndex := 13, descriptorIndex := 14, attributes := #[] }, { accessFlags := 18, nameIndex := 17, descriptorIndex := 18, attributes := #[] }, { accessFlags := 2, nameIndex := 21, descriptorIndex := 22, attributes := #[] }, { accessFlags := 2, nameIndex := 25, descriptorIndex := 26, attributes := #[] }, { accessFlags := 26, nameIndex := 1116, descriptorIndex := 1117, attributes := #[] }, { accessFlags := 24, nameIndex := 40, descriptorIndex := 26, attributes := #[] }, { accessFlags := 26, nameIndex := 1101, descriptorIndex := 1102, attributes := #[] }, { accessFlags := 26, nameIndex := 1121, descriptorIndex := 1122, attributes := #[] }, { accessFlags := 25, nameIndex := 599, descriptorIndex := 600, attributes := #[] }, { accessFlags := 24, nameIndex := 1125, descriptorIndex := 18, attributes := #[] }, { accessFlags := 24, nameIndex := 1127, descriptorIndex := 18, attributes := #[] }])
  fields := #[{ name := "value", type := (.array .byte), accessFlags := 18, slot := 0, constantValue := 0 }, { name := "coder", type := .byte, accessFlags := 18, slot := 1, constantValue := 0 }, { name := "hash", type := .int, accessFlags := 2, slot := 2, constantValue := 0 }, { name := "hashIsZero", type := .boolean, accessFlags := 2, slot := 3, constantValue := 0 }, { name := "serialVersionUID", type := .long, accessFlags := 26, slot := 0, constantValue := 0 }, { name := "COMPACT_STRINGS", type := .boolean, accessFlags := 24, slot := 1, constantValue := 0 }, { name := "serialPersistentFields", type := (.array (.object "java/io/ObjectStreamField")), accessFlags := 26, slot := 2, constantValue := 0 }, { name := "REPL", type := .char, accessFlags := 26, slot := 3, constantValue := 0 }, { name := "CASE_INSENSITIVE_ORDER", type := (.object "java/util/Comparator"), accessFlags := 25, slot := 4, constantValue := 0 }, { name := "LATIN1", type := .byte, accessFlags := 24, slot := 5, constantValue := 0 }, { name := "UTF16", type := .byte, accessFlags := 24, slot := 6, constantValue := 0 }]
  methods := #[k7m0, k7m1, k7m2, k7m3]
  instanceTypes := #[(.array .byte), .byte, .int, .boolean]
  staticTypes := #[.long, .boolean, (.array (.object "java/io/ObjectStreamField")), .char, (.object "java/util/Comparator"), .byte, .byte]
  resolved := Array.replicate 1451 none
  statics := some 0 }

def pool8 : Array CpInfo := pool [(6, .class_ 8), (1, u "java/lang/Object"), (0, u "<init>"), (0, u "()V"), (1, .class_ 14), (1, u "java/lang/StringUTF16"), (31, u "$assertionsDisabled"), (0, u "Z"), (13, u "HI_BYTE_SHIFT"), (0, u "I"), (2, u "LO_BYTE_SHIFT"), (49, .methodref 12 116), (0, .nameAndType 117 118), (0, u "compress"), (0, u "([CI[BII)I"), (3, u "([CII)[B"), (138, u "coderFromArrayLen"), (0, u "([BI)B"), (106, .class_ 371), (1, u "java/lang/StringUTF16$LinesSpliterator"), (58, u "MAX_LENGTH"), (196, .class_ 628), (0, u "java/lang/StringUTF16$CodePointsSpliterator"), (0, .class_ 630), (0, u "java/lang/StringUTF16$CharsSpliterator")] 4

def k8m0 : Method := { name := "<init>", desc := "()V", sig := { parameters := [], returnType := none }, accessFlags := 0, code := none }
def k8c1 : Code := { maxStack := 2, maxLocals := 2, code := jdk_52_method_15_code, exceptionTable := #[], attributes := #[] }
def k8m1 : Method := { name := "coderFromArrayLen", desc := "([BI)B", sig := { parameters := [(.array .byte), .int], returnType := some .byte }, accessFlags := 8, code := some k8c1 }
def k8c2 : Code := { maxStack := 5, maxLocals := 6, code := jdk_52_method_16_code, exceptionTable := #[], attributes := #[] }
def k8m2 : Method := { name := "compress", desc := "([CII)[B", sig := { parameters := [(.array .char), .int, .int], returnType := some (.array .byte) }, accessFlags := 9, code := some k8c2 }
def k8c3 : Code := { maxStack := 3, maxLocals := 7, code := jdk_52_method_21_code, exceptionTable := #[], attributes := #[] }
def k8m3 : Method := { name := "compress", desc := "([CI[BII)I", sig := { parameters := [(.array .char), .int, (.array .byte), .int, .int], returnType := some .int }, accessFlags := 9, code := some k8c3 }
/-- java/lang/StringUTF16 -/
def k8 : Class := { plain "java/lang/StringUTF16" (some 0) with
  accessFlags := 48
  interfaces := #[]
  cf := some (fileOf pool8 12 #[.nestMembers #[627, 629, 369]] #[{ accessFlags := 0, nameIndex := 9, descriptorIndex := 10, attributes := #[] }, { accessFlags := 8, nameIndex := 261, descriptorIndex := 262, attributes := #[] }, { accessFlags := 9, nameIndex := 117, descriptorIndex := 122, attributes := #[] }, { accessFlags := 9, nameIndex := 117, descriptorIndex := 118, attributes := #[] }] 48 6 #[] #[{ accessFlags := 26, nameIndex := 61, descriptorIndex := 62, attributes := #[] }, { accessFlags := 26, nameIndex := 65, descriptorIndex := 62, attributes := #[] }, { accessFlags := 24, nameIndex := 430, descriptorIndex := 62, attributes := #[] }, { accessFlags := 4120, nameIndex := 46, descriptorIndex := 47, attributes := #[] }])
  fields := #[{ name := "HI_BYTE_SHIFT", type := .int, accessFlags := 26, slot := 0, constantValue := 0 }, { name := "LO_BYTE_SHIFT", type := .int, accessFlags := 26, slot := 1, constantValue := 0 }, { name := "MAX_LENGTH", type := .int, accessFlags := 24, slot := 2, constantValue := 0 }, { name := "$assertionsDisabled", type := .boolean, accessFlags := 4120, slot := 3, constantValue := 0 }]
  methods := #[k8m0, k8m1, k8m2, k8m3]
  instanceTypes := #[]
  staticTypes := #[.int, .int, .int, .boolean]
  resolved := Array.replicate 635 none
  statics := none }

def pool9 : Array CpInfo := pool [(1, .methodref 2 3), (0, .class_ 4), (0, .nameAndType 5 6), (0, u "java/lang/Object"), (0, u "<init>"), (0, u "()V"), (0, .fieldref 8 9), (0, .class_ 10), (0, .nameAndType 11 12), (0, u "com/example/conq/conq/model/GroupPartition"), (0, u "queue"), (0, u "Ljava/lang/String;"), (0, .fieldref 8 14), (0, .nameAndType 15 12), (0, u "group"), (0, .fieldref 8 17), (0, .nameAndType 18 12), (0, u "partition"), (4, .methodref 24 25), (0, .class_ 26), (0, .nameAndType 27 28), (0, u "java/lang/String"), (0, u "equals"), (0, u "(Ljava/lang/Object;)Z"), (2, u "(Ljava/lang/String;Ljava/lang/String;Ljava/lang/String;)V")] 21

def k9c0 : Code := { maxStack := 2, maxLocals := 4, code := prog_19_method_1_code, exceptionTable := #[], attributes := #[] }
def k9m0 : Method := { name := "<init>", desc := "(Ljava/lang/String;Ljava/lang/String;Ljava/lang/String;)V", sig := { parameters := [(.object "java/lang/String"), (.object "java/lang/String"), (.object "java/lang/String")], returnType := none }, accessFlags := 1, code := some k9c0 }
def k9c1 : Code := { maxStack := 2, maxLocals := 3, code := prog_19_method_7_code, exceptionTable := #[], attributes := #[] }
def k9m1 : Method := { name := "equals", desc := "(Ljava/lang/Object;)Z", sig := { parameters := [(.object "java/lang/Object")], returnType := some .boolean }, accessFlags := 1, code := some k9c1 }
/-- com/example/conq/conq/model/GroupPartition -/
def k9 : Class := { plain "com/example/conq/conq/model/GroupPartition" (some 0) with
  accessFlags := 33
  interfaces := #[]
  cf := some (fileOf pool9 8 #[] #[{ accessFlags := 1, nameIndex := 5, descriptorIndex := 31, attributes := #[] }, { accessFlags := 1, nameIndex := 27, descriptorIndex := 28, attributes := #[] }] 33 2 #[] #[{ accessFlags := 18, nameIndex := 11, descriptorIndex := 12, attributes := #[] }, { accessFlags := 18, nameIndex := 15, descriptorIndex := 12, attributes := #[] }, { accessFlags := 18, nameIndex := 18, descriptorIndex := 12, attributes := #[] }])
  fields := #[{ name := "queue", type := (.object "java/lang/String"), accessFlags := 18, slot := 0, constantValue := 0 }, { name := "group", type := (.object "java/lang/String"), accessFlags := 18, slot := 1, constantValue := 0 }, { name := "partition", type := (.object "java/lang/String"), accessFlags := 18, slot := 2, constantValue := 0 }]
  methods := #[k9m0, k9m1]
  instanceTypes := #[(.object "java/lang/String"), (.object "java/lang/String"), (.object "java/lang/String")]
  staticTypes := #[]
  resolved := Array.replicate 53 none
  statics := none }

def pool10 : Array CpInfo := pool [(4, .class_ 6), (1, u "java/lang/Object"), (0, u "<init>"), (0, u "()V"), (5, .class_ 16), (1, u "java/lang/StringLatin1"), (104, u "$assertionsDisabled"), (0, u "Z"), (98, .class_ 223), (1, u "java/lang/StringLatin1$LinesSpliterator"), (57, u "equals"), (0, u "([B[B)Z"), (107, .class_ 391), (0, u "java/lang/StringLatin1$CharsSpliterator")] 3

def k10m0 : Method := { name := "<init>", desc := "()V", sig := { parameters := [], returnType := none }, accessFlags := 0, code := none }
def k10c1 : Code := { maxStack := 3, maxLocals := 3, code := jdk_43_method_13_code, exceptionTable := #[], attributes := #[] }
def k10m1 : Method := { name := "equals", desc := "([B[B)Z", sig := { parameters := [(.array .byte), (.array .byte)], returnType := some .boolean }, accessFlags := 9, code := some k10c1 }
/-- java/lang/StringLatin1 -/
def k10 : Class := { plain "java/lang/StringLatin1" (some 0) with
  accessFlags := 48
  interfaces := #[]
  cf := some (fileOf pool10 14 #[.nestMembers #[390, 221]] #[{ accessFlags := 0, nameIndex := 7, descriptorIndex := 8, attributes := #[] }, { accessFlags := 9, nameIndex := 281, descriptorIndex := 282, attributes := #[] }] 48 4 #[] #[{ accessFlags := 4120, nameIndex := 121, descriptorIndex := 122, attributes := #[] }])
  fields := #[{ name := "$assertionsDisabled", type := .boolean, accessFlags := 4120, slot := 0, constantValue := 0 }]
  methods := #[k10m0, k10m1]
  instanceTypes := #[]
  staticTypes := #[.boolean]
  resolved := Array.replicate 395 none
  statics := none }

def pool11 : Array CpInfo := pool [(1, .methodref 2 3), (0, .class_ 4), (0, .nameAndType 5 6), (0, u "com/example/conq/conq/model/PopRequest"), (0, u "<init>"), (0, u "(Ljava/lang/String;Ljava/lang/String;IIILcom/example/conq/conq/model/DeadLettering;)V"), (0, .methodref 8 9), (0, .class_ 10), (0, .nameAndType 5 11), (0, u "java/lang/Object"), (0, u "()V"), (0, .fieldref 2 13), (0, .nameAndType 14 15), (0, u "group"), (0, u "Ljava/lang/String;"), (0, .fieldref 2 17), (0, .nameAndType 18 15), (0, u "partition"), (0, .fieldref 2 20), (0, .nameAndType 21 22), (0, u "batch"), (0, u "I"), (0, .fieldref 2 24), (0, .nameAndType 25 22), (0, u "leaseSeconds"), (0, .fieldref 2 27), (0, .nameAndType 28 22), (0, u "waitMs"), (0, .fieldref 2 30), (0, .nameAndType 31 32), (0, u "deadLettering"), (0, u "Lcom/example/conq/conq/model/DeadLettering;"), (8, u "ANY_PARTITION"), (1, u "DEFAULT_BATCH"), (1, u "MAX_BATCH"), (1, u "DEFAULT_LEASE_SECONDS"), (1, u "MAX_LEASE_SECONDS"), (1, u "MAX_WAIT_MS"), (1, u "(Ljava/lang/String;Ljava/lang/String;III)V")] 15

def k11c0 : Code := { maxStack := 7, maxLocals := 6, code := prog_29_method_1_code, exceptionTable := #[], attributes := #[] }
def k11m0 : Method := { name := "<init>", desc := "(Ljava/lang/String;Ljava/lang/String;III)V", sig := { parameters := [(.object "java/lang/String"), (.object "java/lang/String"), .int, .int, .int], returnType := none }, accessFlags := 1, code := some k11c0 }
def k11c1 : Code := { maxStack := 2, maxLocals := 7, code := prog_29_method_2_code, exceptionTable := #[], attributes := #[] }
def k11m1 : Method := { name := "<init>", desc := "(Ljava/lang/String;Ljava/lang/String;IIILcom/example/conq/conq/model/DeadLettering;)V", sig := { parameters := [(.object "java/lang/String"), (.object "java/lang/String"), .int, .int, .int, (.object "com/example/conq/conq/model/DeadLettering")], returnType := none }, accessFlags := 1, code := some k11c1 }
/-- com/example/conq/conq/model/PopRequest -/
def k11 : Class := { plain "com/example/conq/conq/model/PopRequest" (some 0) with
  accessFlags := 33
  interfaces := #[]
  cf := some (fileOf pool11 2 #[] #[{ accessFlags := 1, nameIndex := 5, descriptorIndex := 53, attributes := #[] }, { accessFlags := 1, nameIndex := 5, descriptorIndex := 6, attributes := #[] }] 33 8 #[] #[{ accessFlags := 25, nameIndex := 41, descriptorIndex := 15, attributes := #[] }, { accessFlags := 25, nameIndex := 43, descriptorIndex := 22, attributes := #[] }, { accessFlags := 25, nameIndex := 45, descriptorIndex := 22, attributes := #[] }, { accessFlags := 25, nameIndex := 47, descriptorIndex := 22, attributes := #[] }, { accessFlags := 25, nameIndex := 49, descriptorIndex := 22, attributes := #[] }, { accessFlags := 25, nameIndex := 51, descriptorIndex := 22, attributes := #[] }, { accessFlags := 18, nameIndex := 14, descriptorIndex := 15, attributes := #[] }, { accessFlags := 18, nameIndex := 18, descriptorIndex := 15, attributes := #[] }, { accessFlags := 18, nameIndex := 21, descriptorIndex := 22, attributes := #[] }, { accessFlags := 18, nameIndex := 25, descriptorIndex := 22, attributes := #[] }, { accessFlags := 18, nameIndex := 28, descriptorIndex := 22, attributes := #[] }, { accessFlags := 18, nameIndex := 31, descriptorIndex := 32, attributes := #[] }])
  fields := #[{ name := "ANY_PARTITION", type := (.object "java/lang/String"), accessFlags := 25, slot := 0, constantValue := 0 }, { name := "DEFAULT_BATCH", type := .int, accessFlags := 25, slot := 1, constantValue := 0 }, { name := "MAX_BATCH", type := .int, accessFlags := 25, slot := 2, constantValue := 0 }, { name := "DEFAULT_LEASE_SECONDS", type := .int, accessFlags := 25, slot := 3, constantValue := 0 }, { name := "MAX_LEASE_SECONDS", type := .int, accessFlags := 25, slot := 4, constantValue := 0 }, { name := "MAX_WAIT_MS", type := .int, accessFlags := 25, slot := 5, constantValue := 0 }, { name := "group", type := (.object "java/lang/String"), accessFlags := 18, slot := 0, constantValue := 0 }, { name := "partition", type := (.object "java/lang/String"), accessFlags := 18, slot := 1, constantValue := 0 }, { name := "batch", type := .int, accessFlags := 18, slot := 2, constantValue := 0 }, { name := "leaseSeconds", type := .int, accessFlags := 18, slot := 3, constantValue := 0 }, { name := "waitMs", type := .int, accessFlags := 18, slot := 4, constantValue := 0 }, { name := "deadLettering", type := (.object "com/example/conq/conq/model/DeadLettering"), accessFlags := 18, slot := 5, constantValue := 0 }]
  methods := #[k11m0, k11m1]
  instanceTypes := #[(.object "java/lang/String"), (.object "java/lang/String"), .int, .int, .int, (.object "com/example/conq/conq/model/DeadLettering")]
  staticTypes := #[(.object "java/lang/String"), .int, .int, .int, .int, .int]
  resolved := Array.replicate 69 none
  statics := none }

def pool12 : Array CpInfo := pool [(2, .class_ 4), (1, u "java/lang/Object"), (0, u "<init>"), (0, u "()V"), (17, .class_ 26), (1, u "jdk/internal/util/Preconditions"), (28, .class_ 56), (0, u "jdk/internal/util/Preconditions$4"), (57, .class_ 115), (0, u "jdk/internal/util/Preconditions$1"), (7, u "SIOOBE_FORMATTER"), (0, u "Ljava/util/function/BiFunction;"), (0, .class_ 126), (0, u "jdk/internal/util/Preconditions$2"), (3, u "AIOOBE_FORMATTER"), (0, .class_ 132), (0, u "jdk/internal/util/Preconditions$3"), (3, u "IOOBE_FORMATTER")] 57

def k12m0 : Method := { name := "<init>", desc := "()V", sig := { parameters := [], returnType := none }, accessFlags := 1, code := none }
/-- jdk/internal/util/Preconditions -/
def k12 : Class := { plain "jdk/internal/util/Preconditions" (some 0) with
  accessFlags := 33
  interfaces := #[]
  cf := some (fileOf pool12 24 #[.nestMembers #[55, 131, 125, 114]] #[{ accessFlags := 1, nameIndex := 5, descriptorIndex := 6, attributes := #[] }] 33 2 #[] #[{ accessFlags := 25, nameIndex := 123, descriptorIndex := 124, attributes := #[] }, { accessFlags := 25, nameIndex := 130, descriptorIndex := 124, attributes := #[] }, { accessFlags := 25, nameIndex := 136, descriptorIndex := 124, attributes := #[] }])
  fields := #[{ name := "SIOOBE_FORMATTER", type := (.object "java/util/function/BiFunction"), accessFlags := 25, slot := 0, constantValue := 0 }, { name := "AIOOBE_FORMATTER", type := (.object "java/util/function/BiFunction"), accessFlags := 25, slot := 1, constantValue := 0 }, { name := "IOOBE_FORMATTER", type := (.object "java/util/function/BiFunction"), accessFlags := 25, slot := 2, constantValue := 0 }]
  methods := #[k12m0]
  instanceTypes := #[]
  staticTypes := #[(.object "java/util/function/BiFunction"), (.object "java/util/function/BiFunction"), (.object "java/util/function/BiFunction")]
  resolved := Array.replicate 194 none
  statics := some 1 }

def pool13 : Array CpInfo := pool [(9, u "<init>"), (6, .class_ 18), (1, u "java/lang/Object"), (0, u "()V"), (1, .class_ 23), (1, u "jdk/internal/util/ArraysSupport"), (0, u "LOG2_ARRAY_LONG_INDEX_SCALE"), (0, u "I"), (2, u "U"), (0, u "Ljdk/internal/misc/Unsafe;"), (8, u "BIG_ENDIAN"), (0, u "Z"), (8, u "LOG2_BYTE_BIT_SIZE"), (4, u "LOG2_ARRAY_INT_INDEX_SCALE"), (54, u "JLA"), (0, u "Ljdk/internal/access/JavaLangAccess;"), (11, u "LOG2_ARRAY_BOOLEAN_INDEX_SCALE"), (9, u "LOG2_ARRAY_BYTE_INDEX_SCALE"), (5, u "LOG2_ARRAY_CHAR_INDEX_SCALE"), (5, u "LOG2_ARRAY_SHORT_INDEX_SCALE"), (18, u "LOG2_ARRAY_FLOAT_INDEX_SCALE"), (24, u "LOG2_ARRAY_DOUBLE_INDEX_SCALE"), (89, u "T_BOOLEAN"), (2, u "T_CHAR"), (1, u "T_FLOAT"), (1, u "T_DOUBLE"), (1, u "T_BYTE"), (1, u "T_SHORT"), (1, u "T_INT"), (1, u "T_LONG"), (1, u "SOFT_MAX_ARRAY_LENGTH")] 83

def k13m0 : Method := { name := "<init>", desc := "()V", sig := { parameters := [], returnType := none }, accessFlags := 2, code := none }
/-- jdk/internal/util/ArraysSupport -/
def k13 : Class := { plain "jdk/internal/util/ArraysSupport" (some 0) with
  accessFlags := 33
  interfaces := #[]
  cf := some (fileOf pool13 21 #[] #[{ accessFlags := 2, nameIndex := 9, descriptorIndex := 19, attributes := #[] }] 33 16 #[] #[{ accessFlags := 24, nameIndex := 28, descriptorIndex := 29, attributes := #[] }, { accessFlags := 26, nameIndex := 38, descriptorIndex := 39, attributes := #[] }, { accessFlags := 25, nameIndex := 121, descriptorIndex := 25, attributes := #[] }, { accessFlags := 25, nameIndex := 131, descriptorIndex := 25, attributes := #[] }, { accessFlags := 25, nameIndex := 137, descriptorIndex := 25, attributes := #[] }, { accessFlags := 25, nameIndex := 143, descriptorIndex := 25, attributes := #[] }, { accessFlags := 25, nameIndex := 53, descriptorIndex := 25, attributes := #[] }, { accessFlags := 25, nameIndex := 24, descriptorIndex := 25, attributes := #[] }, { accessFlags := 25, nameIndex := 162, descriptorIndex := 25, attributes := #[] }, { accessFlags := 25, nameIndex := 187, descriptorIndex := 25, attributes := #[] }, { accessFlags := 26, nameIndex := 48, descriptorIndex := 25, attributes := #[] }, { accessFlags := 25, nameIndex := 277, descriptorIndex := 25, attributes := #[] }, { accessFlags := 25, nameIndex := 280, descriptorIndex := 25, attributes := #[] }, { accessFlags := 25, nameIndex := 282, descriptorIndex := 25, attributes := #[] }, { accessFlags := 25, nameIndex := 284, descriptorIndex := 25, attributes := #[] }, { accessFlags := 25, nameIndex := 286, descriptorIndex := 25, attributes := #[] }, { accessFlags := 25, nameIndex := 288, descriptorIndex := 25, attributes := #[] }, { accessFlags := 25, nameIndex := 290, descriptorIndex := 25, attributes := #[] }, { accessFlags := 25, nameIndex := 292, descriptorIndex := 25, attributes := #[] }, { accessFlags := 26, nameIndex := 108, descriptorIndex := 109, attributes := #[] }, { accessFlags := 25, nameIndex := 294, descriptorIndex := 25, attributes := #[] }])
  fields := #[{ name := "U", type := (.object "jdk/internal/misc/Unsafe"), accessFlags := 24, slot := 0, constantValue := 0 }, { name := "BIG_ENDIAN", type := .boolean, accessFlags := 26, slot := 1, constantValue := 0 }, { name := "LOG2_ARRAY_BOOLEAN_INDEX_SCALE", type := .int, accessFlags := 25, slot := 2, constantValue := 0 }, { name := "LOG2_ARRAY_BYTE_INDEX_SCALE", type := .int, accessFlags := 25, slot := 3, constantValue := 0 }, { name := "LOG2_ARRAY_CHAR_INDEX_SCALE", type := .int, accessFlags := 25, slot := 4, constantValue := 0 }, { name := "LOG2_ARRAY_SHORT_INDEX_SCALE", type := .int, accessFlags := 25, slot := 5, constantValue := 0 }, { name := "LOG2_ARRAY_INT_INDEX_SCALE", type := .int, accessFlags := 25, slot := 6, constantValue := 0 }, { name := "LOG2_ARRAY_LONG_INDEX_SCALE", type := .int, accessFlags := 25, slot := 7, constantValue := 0 }, { name := "LOG2_ARRAY_FLOAT_INDEX_SCALE", type := .int, accessFlags := 25, slot := 8, constantValue := 0 }, { name := "LOG2_ARRAY_DOUBLE_INDEX_SCALE", type := .int, accessFlags := 25, slot := 9, constantValue := 0 }, { name := "LOG2_BYTE_BIT_SIZE", type := .int, accessFlags := 26, slot := 10, constantValue := 0 }, { name := "T_BOOLEAN", type := .int, accessFlags := 25, slot := 11, constantValue := 0 }, { name := "T_CHAR", type := .int, accessFlags := 25, slot := 12, constantValue := 0 }, { name := "T_FLOAT", type := .int, accessFlags := 25, slot := 13, constantValue := 0 }, { name := "T_DOUBLE", type := .int, accessFlags := 25, slot := 14, constantValue := 0 }, { name := "T_BYTE", type := .int, accessFlags := 25, slot := 15, constantValue := 0 }, { name := "T_SHORT", type := .int, accessFlags := 25, slot := 16, constantValue := 0 }, { name := "T_INT", type := .int, accessFlags := 25, slot := 17, constantValue := 0 }, { name := "T_LONG", type := .int, accessFlags := 25, slot := 18, constantValue := 0 }, { name := "JLA", type := (.object "jdk/internal/access/JavaLangAccess"), accessFlags := 26, slot := 19, constantValue := 0 }, { name := "SOFT_MAX_ARRAY_LENGTH", type := .int, accessFlags := 25, slot := 20, constantValue := 0 }]
  methods := #[k13m0]
  instanceTypes := #[]
  staticTypes := #[(.object "jdk/internal/misc/Unsafe"), .boolean, .int, .int, .int, .int, .int, .int, .int, .int, .int, .int, .int, .int, .int, .int, .int, .int, .int, (.object "jdk/internal/access/JavaLangAccess"), .int]
  resolved := Array.replicate 378 none
  statics := none }

def pool14 : Array CpInfo := pool [(1, u "java/lang/Cloneable"), (0, .class_ 1), (0, u "java/lang/Object"), (0, .class_ 3)] 3

/-- java/lang/Cloneable -/
def k14 : Class := { plain "java/lang/Cloneable" (some 0) with
  accessFlags := 1537
  interfaces := #[]
  cf := some (fileOf pool14 2 #[] #[] 1537 4 #[] #[])
  fields := #[]
  methods := #[]
  instanceTypes := #[]
  staticTypes := #[]
  resolved := Array.replicate 8 none
  statics := none }

/-- the primitive byte -/
def k15 : Class := { plain "byte" none with kind := .primitive 'B', accessFlags := 0x411 }
/-- [B -/
def k16 : Class := { plain "[B" (some 0) with kind := .array 15 .byte, interfaces := #[14, 2], accessFlags := 1041 }

/-- the primitive char -/
def k17 : Class := { plain "char" none with kind := .primitive 'C', accessFlags := 0x411 }
/-- [C -/
def k18 : Class := { plain "[C" (some 0) with kind := .array 17 .char, interfaces := #[14, 2], accessFlags := 1041 }

/-- the primitive int -/
def k19 : Class := { plain "int" none with kind := .primitive 'I', accessFlags := 0x411 }
/-- [I -/
def k20 : Class := { plain "[I" (some 0) with kind := .array 19 .int, interfaces := #[14, 2], accessFlags := 1041 }

def heap : Heap := #[{ cls := 7, slots := #[.long 0, .int 1, .null, .int 0, .null, .int 0, .int 0], vm := .statics 7 },
  { cls := 12, slots := #[.null, .null, .null], vm := .statics 12 }]
def classes : Array Class := #[k0, k1, k2, k3, k4, k5, k6, k7, k8, k9, k10, k11, k12, k13, k14, k15, k16, k17, k18, k19, k20]
def interned : List (Array UInt16 × Addr) := []
def slotsUsed : Nat := 10
def theMethod : MethodId := ⟨1, 4⟩
def args0 : Array Value := #[.int 5, .int 5, .int 5, .int 5, .int 5]
def aboutOver (below : List Frame) : State where
  vm := { classes := classes, interned := interned.toArray }
  heap := heap
  slotsUsed := slotsUsed
  threads := #[{ frames := .invoking theMethod args0 :: below }]
def below0 : List Frame := [.native { method := ⟨0, 0⟩, args := #[] }]
def about1 : State := aboutOver below0
def p0 : Program := .bare "" "" ""
def e0 : Env := launch0.env 0 0 0
theorem w_frames : about1.frames = Frame.invoking theMethod args0 :: below0 := rfl
set_option maxRecDepth 65536 in
theorem w_args : argsFit about1.vm theMethod args0 = true := by decide +kernel
set_option maxRecDepth 65536 in
theorem w_heap : heapFits about1 = true := by decide +kernel
set_option maxRecDepth 65536 in
theorem w_runnable : about1.curStatus? = some .runnable := by decide +kernel
set_option maxRecDepth 65536 in
theorem w_alone : about1.alone = true := by decide +kernel
set_option maxRecDepth 65536 in
theorem w_named : about1.methodNamed? x = some theMethod := by decide +kernel
set_option maxRecDepth 65536 in
theorem w_hears : about1.hears theMethod below0 = true := by decide +kernel
set_option maxRecDepth 65536 in
theorem w_ripe : about1.ripe theMethod args0 below0 = true := by decide +kernel
theorem w_running : about1.status = .running := rfl
set_option maxRecDepth 65536 in
theorem w_room : about1.hasRoom e0.platform room_1 = true :=
  launch0.hasRoom_least _ room_1 (by decide +kernel) (by decide +kernel) (by decide +kernel) (by decide +kernel) (by decide +kernel) (by decide +kernel)
theorem allAtoms_all (ts : List Jvm.Cond) (a : Array Jvm.Value) (st : Jvm.State) : (allAtoms ts).before a st = ts.all (fun c => c.before a st) := by
  induction ts with
  | nil => rfl
  | cons c t ih =>
    show (Jvm.Cond.and c (allAtoms t)).before a st = _
    rw [Jvm.Cond.before_and, ih, List.all_cons]
def words1 : List Jvm.Cond := Jvm.Cond.code x code maxLocals ret :: tables_1
/-- a 'code' word, met by the world's own term for the bytes: nothing is compared byte by byte -/
theorem code_word {y : MethodName} {bytes : ByteArray} {mx : Nat} {rt : Option FieldType} {a : Array Value} {s : State} {m : MethodId} {meth : Method} {c : Code} (h1 : s.methodNamed? y = some m) (h2 : s.vm.method? m = some meth) (h3 : meth.code = some c) (h4 : c.code = bytes)
    (h5 : (c.maxLocals == mx && c.exceptionTable.isEmpty && decide (c.maxStack ≤ mostOperands) && decide (meth.sig.returnType = rt) && !meth.locks && decide (parseMethodDescriptor y.desc = some meth.sig)) = true) : (Jvm.Cond.code y bytes mx rt).before a s = true := by
  simp only [Bool.and_eq_true, beq_iff_eq, Bool.not_eq_true', decide_eq_true_eq] at h5
  obtain ⟨⟨⟨⟨⟨g1, g2⟩, g3⟩, g4⟩, g5⟩, g6⟩ := h5
  simp [Cond.before, Cond.holds, Cond.value, h1, h2, h3, h4, g1, g2, g3, g4, g5, g6]
def isCode : Jvm.Cond → Bool
  | .code _ _ _ _ => true
  | _ => false
theorem all_split {L : List Jvm.Cond} {P : Jvm.Cond → Bool} (h1 : L.all (fun c => isCode c || P c) = true) (h2 : ∀ c ∈ L.filter isCode, P c = true) : L.all P = true := by
  refine List.all_eq_true.mpr fun c hc => ?_
  have h := List.all_eq_true.mp h1 c hc
  rcases Bool.eq_false_or_eq_true (isCode c) with hi | hi
  · exact h2 c (List.mem_filter.mpr ⟨hc, hi⟩)
  · simpa [hi] using h
set_option maxRecDepth 65536 in
theorem w_c0 : (Jvm.Cond.code x code maxLocals ret).before args0 about1 = true := code_word (m := ⟨1, 4⟩) (meth := k1m4) (c := k1c4) (by decide +kernel) rfl rfl rfl (by decide +kernel)
set_option maxRecDepth 65536 in
theorem w_c1 : (Jvm.Cond.code ({ cls := "com/example/conq/conq/model/GroupPartitionEqualsPinLaw", name := "len", desc := "(I)I" } : Jvm.MethodName) method_2_code (1 : Nat) (Option.some Jvm.ClassFile.FieldType.int)).before args0 about1 = true := code_word (m := ⟨1, 1⟩) (meth := k1m1) (c := k1c1) (by decide +kernel) rfl rfl rfl (by decide +kernel)
set_option maxRecDepth 65536 in
theorem w_c2 : (Jvm.Cond.code ({ cls := "com/example/conq/conq/model/GroupPartitionEqualsPinLaw", name := "mk", desc := "(III)Ljava/lang/String;" } : Jvm.MethodName) method_3_code (3 : Nat) (Option.some (Jvm.ClassFile.FieldType.object "java/lang/String"))).before args0 about1 = true := code_word (m := ⟨1, 2⟩) (meth := k1m2) (c := k1c2) (by decide +kernel) rfl rfl rfl (by decide +kernel)
set_option maxRecDepth 65536 in
theorem w_c3 : (Jvm.Cond.code ({ cls := "java/lang/String", name := "<init>", desc := "([C)V" } : Jvm.MethodName) jdk_42_method_3_code (2 : Nat) (Option.none : Option Jvm.ClassFile.FieldType)).before args0 about1 = true := code_word (m := ⟨7, 1⟩) (meth := k7m1) (c := k7c1) (by decide +kernel) rfl rfl rfl (by decide +kernel)
set_option maxRecDepth 65536 in
theorem w_c4 : (Jvm.Cond.code ({ cls := "java/lang/String", name := "<init>", desc := "([CIILjava/lang/Void;)V" } : Jvm.MethodName) jdk_42_method_149_code (6 : Nat) (Option.none : Option Jvm.ClassFile.FieldType)).before args0 about1 = true := code_word (m := ⟨7, 3⟩) (meth := k7m3) (c := k7c3) (by decide +kernel) rfl rfl rfl (by decide +kernel)
set_option maxRecDepth 65536 in
theorem w_c5 : (Jvm.Cond.code ({ cls := "java/lang/Object", name := "<init>", desc := "()V" } : Jvm.MethodName) object_method_1_code (1 : Nat) (Option.none : Option Jvm.ClassFile.FieldType)).before args0 about1 = true := code_word (m := ⟨0, 0⟩) (meth := k0m0) (c := k0c0) (by decide +kernel) rfl rfl rfl (by decide +kernel)
set_option maxRecDepth 65536 in
theorem w_c6 : (Jvm.Cond.code ({ cls := "java/lang/StringUTF16", name := "compress", desc := "([CII)[B" } : Jvm.MethodName) jdk_52_method_16_code (6 : Nat) (Option.some (Jvm.ClassFile.FieldType.array Jvm.ClassFile.FieldType.byte))).before args0 about1 = true := code_word (m := ⟨8, 2⟩) (meth := k8m2) (c := k8c2) (by decide +kernel) rfl rfl rfl (by decide +kernel)
set_option maxRecDepth 65536 in
theorem w_c7 : (Jvm.Cond.code ({ cls := "java/lang/StringUTF16", name := "compress", desc := "([CI[BII)I" } : Jvm.MethodName) jdk_52_method_21_code (7 : Nat) (Option.some Jvm.ClassFile.FieldType.int)).before args0 about1 = true := code_word (m := ⟨8, 3⟩) (meth := k8m3) (c := k8c3) (by decide +kernel) rfl rfl rfl (by decide +kernel)
set_option maxRecDepth 65536 in
theorem w_c8 : (Jvm.Cond.code ({ cls := "java/lang/StringUTF16", name := "coderFromArrayLen", desc := "([BI)B" } : Jvm.MethodName) jdk_52_method_15_code (2 : Nat) (Option.some Jvm.ClassFile.FieldType.byte)).before args0 about1 = true := code_word (m := ⟨8, 1⟩) (meth := k8m1) (c := k8c1) (by decide +kernel) rfl rfl rfl (by decide +kernel)
set_option maxRecDepth 65536 in
theorem w_c9 : (Jvm.Cond.code ({ cls := "com/example/conq/conq/model/GroupPartition", name := "<init>", desc := "(Ljava/lang/String;Ljava/lang/String;Ljava/lang/String;)V" } : Jvm.MethodName) prog_19_method_1_code (4 : Nat) (Option.none : Option Jvm.ClassFile.FieldType)).before args0 about1 = true := code_word (m := ⟨9, 0⟩) (meth := k9m0) (c := k9c0) (by decide +kernel) rfl rfl rfl (by decide +kernel)
set_option maxRecDepth 65536 in
theorem w_c10 : (Jvm.Cond.code ({ cls := "com/example/conq/conq/model/GroupPartitionEqualsPinLaw", name := "same", desc := "(IIIIII)Z" } : Jvm.MethodName) method_4_code (6 : Nat) (Option.some Jvm.ClassFile.FieldType.boolean)).before args0 about1 = true := code_word (m := ⟨1, 3⟩) (meth := k1m3) (c := k1c3) (by decide +kernel) rfl rfl rfl (by decide +kernel)
set_option maxRecDepth 65536 in
theorem w_c11 : (Jvm.Cond.code ({ cls := "com/example/conq/conq/model/GroupPartition", name := "equals", desc := "(Ljava/lang/Object;)Z" } : Jvm.MethodName) prog_19_method_7_code (3 : Nat) (Option.some Jvm.ClassFile.FieldType.boolean)).before args0 about1 = true := code_word (m := ⟨9, 1⟩) (meth := k9m1) (c := k9c1) (by decide +kernel) rfl rfl rfl (by decide +kernel)
set_option maxRecDepth 65536 in
theorem w_c12 : (Jvm.Cond.code ({ cls := "java/lang/String", name := "equals", desc := "(Ljava/lang/Object;)Z" } : Jvm.MethodName) jdk_42_method_66_code (3 : Nat) (Option.some Jvm.ClassFile.FieldType.boolean)).before args0 about1 = true := code_word (m := ⟨7, 2⟩) (meth := k7m2) (c := k7c2) (by decide +kernel) rfl rfl rfl (by decide +kernel)
set_option maxRecDepth 65536 in
theorem w_c13 : (Jvm.Cond.code ({ cls := "java/lang/StringLatin1", name := "equals", desc := "([B[B)Z" } : Jvm.MethodName) jdk_43_method_13_code (3 : Nat) (Option.some Jvm.ClassFile.FieldType.boolean)).before args0 about1 = true := code_word (m := ⟨10, 1⟩) (meth := k10m1) (c := k10c1) (by decide +kernel) rfl rfl rfl (by decide +kernel)
set_option maxRecDepth 65536 in
theorem w_c14 : (Jvm.Cond.code ({ cls := "com/example/conq/conq/model/PopRequest", name := "<init>", desc := "(Ljava/lang/String;Ljava/lang/String;III)V" } : Jvm.MethodName) prog_29_method_1_code (6 : Nat) (Option.none : Option Jvm.ClassFile.FieldType)).before args0 about1 = true := code_word (m := ⟨11, 0⟩) (meth := k11m0) (c := k11c0) (by decide +kernel) rfl rfl rfl (by decide +kernel)
set_option maxRecDepth 65536 in
theorem w_c15 : (Jvm.Cond.code ({ cls := "com/example/conq/conq/model/PopRequest", name := "<init>", desc := "(Ljava/lang/String;Ljava/lang/String;IIILcom/example/conq/conq/model/DeadLettering;)V" } : Jvm.MethodName) prog_29_method_2_code (7 : Nat) (Option.none : Option Jvm.ClassFile.FieldType)).before args0 about1 = true := code_word (m := ⟨11, 1⟩) (meth := k11m1) (c := k11c1) (by decide +kernel) rfl rfl rfl (by decide +kernel)
def codes1 : List Jvm.Cond := [Jvm.Cond.code x code maxLocals ret, Jvm.Cond.code ({ cls := "com/example/conq/conq/model/GroupPartitionEqualsPinLaw", name := "len", desc := "(I)I" } : Jvm.MethodName) method_2_code (1 : Nat) (Option.some Jvm.ClassFile.FieldType.int), Jvm.Cond.code ({ cls := "com/example/conq/conq/model/GroupPartitionEqualsPinLaw", name := "mk", desc := "(III)Ljava/lang/String;" } : Jvm.MethodName) method_3_code (3 : Nat) (Option.some (Jvm.ClassFile.FieldType.object "java/lang/String")), Jvm.Cond.code ({ cls := "java/lang/String", name := "<init>", desc := "([C)V" } : Jvm.MethodName) jdk_42_method_3_code (2 : Nat) (Option.none : Option Jvm.ClassFile.FieldType), Jvm.Cond.code ({ cls := "java/lang/String", name := "<init>", desc := "([CIILjava/lang/Void;)V" } : Jvm.MethodName) jdk_42_method_149_code (6 : Nat) (Option.none : Option Jvm.ClassFile.FieldType), Jvm.Cond.code ({ cls := "java/lang/Object", name := "<init>", desc := "()V" } : Jvm.MethodName) object_method_1_code (1 : Nat) (Option.none : Option Jvm.ClassFile.FieldType), Jvm.Cond.code ({ cls := "java/lang/StringUTF16", name := "compress", desc := "([CII)[B" } : Jvm.MethodName) jdk_52_method_16_code (6 : Nat) (Option.some (Jvm.ClassFile.FieldType.array Jvm.ClassFile.FieldType.byte)), Jvm.Cond.code ({ cls := "java/lang/StringUTF16", name := "compress", desc := "([CI[BII)I" } : Jvm.MethodName) jdk_52_method_21_code (7 : Nat) (Option.some Jvm.ClassFile.FieldType.int), Jvm.Cond.code ({ cls := "java/lang/StringUTF16", name := "coderFromArrayLen", desc := "([BI)B" } : Jvm.MethodName) jdk_52_method_15_code (2 : Nat) (Option.some Jvm.ClassFile.FieldType.byte), Jvm.Cond.code ({ cls := "com/example/conq/conq/model/GroupPartition", name := "<init>", desc := "(Ljava/lang/String;Ljava/lang/String;Ljava/lang/String;)V" } : Jvm.MethodName) prog_19_method_1_code (4 : Nat) (Option.none : Option Jvm.ClassFile.FieldType), Jvm.Cond.code ({ cls := "com/example/conq/conq/model/GroupPartitionEqualsPinLaw", name := "same", desc := "(IIIIII)Z" } : Jvm.MethodName) method_4_code (6 : Nat) (Option.some Jvm.ClassFile.FieldType.boolean), Jvm.Cond.code ({ cls := "com/example/conq/conq/model/GroupPartition", name := "equals", desc := "(Ljava/lang/Object;)Z" } : Jvm.MethodName) prog_19_method_7_code (3 : Nat) (Option.some Jvm.ClassFile.FieldType.boolean), Jvm.Cond.code ({ cls := "java/lang/String", name := "equals", desc := "(Ljava/lang/Object;)Z" } : Jvm.MethodName) jdk_42_method_66_code (3 : Nat) (Option.some Jvm.ClassFile.FieldType.boolean), Jvm.Cond.code ({ cls := "java/lang/StringLatin1", name := "equals", desc := "([B[B)Z" } : Jvm.MethodName) jdk_43_method_13_code (3 : Nat) (Option.some Jvm.ClassFile.FieldType.boolean), Jvm.Cond.code ({ cls := "com/example/conq/conq/model/PopRequest", name := "<init>", desc := "(Ljava/lang/String;Ljava/lang/String;III)V" } : Jvm.MethodName) prog_29_method_1_code (6 : Nat) (Option.none : Option Jvm.ClassFile.FieldType), Jvm.Cond.code ({ cls := "com/example/conq/conq/model/PopRequest", name := "<init>", desc := "(Ljava/lang/String;Ljava/lang/String;IIILcom/example/conq/conq/model/DeadLettering;)V" } : Jvm.MethodName) prog_29_method_2_code (7 : Nat) (Option.none : Option Jvm.ClassFile.FieldType)]
set_option maxRecDepth 65536 in
theorem codes_eq : words1.filter isCode = codes1 := rfl
theorem w_codes : ∀ c ∈ words1.filter isCode, c.before args0 about1 = true := by
  rw [codes_eq]
  intro c hc
  simp only [codes1, List.mem_cons, List.not_mem_nil, or_false] at hc
  rcases hc with rfl | rfl | rfl | rfl | rfl | rfl | rfl | rfl | rfl | rfl | rfl | rfl | rfl | rfl | rfl | rfl
  · exact w_c0
  · exact w_c1
  · exact w_c2
  · exact w_c3
  · exact w_c4
  · exact w_c5
  · exact w_c6
  · exact w_c7
  · exact w_c8
  · exact w_c9
  · exact w_c10
  · exact w_c11
  · exact w_c12
  · exact w_c13
  · exact w_c14
  · exact w_c15
set_option maxRecDepth 65536 in
theorem w_t1 : (words1.take 24).all (fun c => isCode c || c.before args0 about1) = true := by decide +kernel
set_option maxRecDepth 65536 in
theorem w_t2 : ((words1.drop 24).take 24).all (fun c => isCode c || c.before args0 about1) = true := by decide +kernel
set_option maxRecDepth 65536 in
theorem w_t3 : (((words1.drop 24).drop 24).take 24).all (fun c => isCode c || c.before args0 about1) = true := by decide +kernel
set_option maxRecDepth 65536 in
theorem w_t4 : ((((words1.drop 24).drop 24).drop 24).take 24).all (fun c => isCode c || c.before args0 about1) = true := by decide +kernel
set_option maxRecDepth 65536 in
theorem w_t5 : ((((words1.drop 24).drop 24).drop 24).drop 24).all (fun c => isCode c || c.before args0 about1) = true := by decide +kernel
theorem w_tables : (allAtoms (Jvm.Cond.code x code maxLocals ret :: tables_1)).before args0 about1 = true := by
  rw [allAtoms_all]
  show words1.all (fun c => c.before args0 about1) = true
  refine all_split ?_ w_codes
  rw [← List.take_append_drop 24 words1, List.all_append, w_t1, ← List.take_append_drop 24 (words1.drop 24), List.all_append, w_t2, ← List.take_append_drop 24 ((words1.drop 24).drop 24), List.all_append, w_t3, ← List.take_append_drop 24 (((words1.drop 24).drop 24).drop 24), List.all_append, w_t4, w_t5]
  rfl
set_option maxRecDepth 65536 in
theorem w_rest : rest_1_c.before args0 about1 = true := by decide +kernel
set_option maxRecDepth 65536 in
theorem w_case : (Jvm.Cond.and given_1 narrow_1).before args0 about1 = true := by decide +kernel
set_option maxRecDepth 65536 in
theorem w_consts : constsHeld consts_1 about1 := Jvm.Lit.constsHeldB_iff.mp (by decide +kernel)
theorem w_applies : (headSpec (Jvm.Cond.code x code maxLocals ret :: tables_1) room_1).applies x e0.platform about1 = true :=
  (Spec.applies_iff w_frames).mpr ⟨w_running, w_runnable, w_alone, w_named, w_hears, w_ripe, w_room, w_tables⟩
theorem atStart : AtStart classFile x code maxLocals ret World_1 tables_1 room_1 Calls_1 rest_1 Pre_1 launch0 p0 e0 about1 theMethod args0 below0 :=
  ⟨lists_1, trivial, launch0.admits_env _ _ _, launch0.least_env, fairChoices_fair.cas, fairChoices_fair.clock, w_frames, w_args, w_heap, w_applies, ⟨w_consts, trivial⟩, w_rest, w_case⟩
end start1
theorem witness_1 : WitnessClaimed_1 := ⟨start1.p0, start1.e0, start1.about1, start1.theMethod, start1.args0, start1.below0, start1.atStart⟩
end Jvm.Pilot.@@N@@
