import JvmDerived
import JvmDerived.Pilot.@@N@@Statement
import JvmDerived.Pilot.@@N@@Code
set_option linter.unusedVariables false
set_option linter.unusedSimpArgs false
namespace Jvm.RoadKit
open Sem ClassFile Op Lib Jvm.Stand Jvm.Free Jvm.LawKit
section New
variable {p : Program} {l : Launch} {e : Env} {R : Room} {s : State} {m : MethodId} {args : Array Value} {below : List Frame} {meth : Method} {c : Code} {T : State} {locs : List Loc} {cells slots : Nat}
theorem own_retI (X : Stand p l e R s m args below meth c T locs cells slots) (hx : p.tables.exec = Jvm.exec) {pc : Nat} {Ls : Array Slot} {z : Int32} {rest : List Value} (hret : meth.sig.returnType = some .int) (hd : decode c.code pc = .ok (.ireturn, 1)) {fs : List Frame}
    (hl : ∀ (f : JFrame) (acts : List Action), f.method = m → f.locked = none → f.entered = [] → (doReturn e (T.setTop f) acts (some (.int z))).1 = T.setFrames fs) : Steps p.tables e below (T.setTop (mkF m pc Ls (.int z :: rest))) (T.setFrames fs) :=
  retOut X hx hret rfl (Or.inl ⟨rfl, Or.inl rfl, z, rfl⟩) hd hl
theorem own_retL (X : Stand p l e R s m args below meth c T locs cells slots) (hx : p.tables.exec = Jvm.exec) {pc : Nat} {Ls : Array Slot} {z : Int64} {rest : List Value} (hret : meth.sig.returnType = some .long) (hd : decode c.code pc = .ok (.lreturn, 1)) {fs : List Frame}
    (hl : ∀ (f : JFrame) (acts : List Action), f.method = m → f.locked = none → f.entered = [] → (doReturn e (T.setTop f) acts (some (.long z))).1 = T.setFrames fs) : Steps p.tables e below (T.setTop (mkF m pc Ls (.long z :: rest))) (T.setFrames fs) :=
  retOut X hx hret rfl (Or.inr (Or.inl ⟨rfl, rfl, z, rfl⟩)) hd hl
theorem own_retA (X : Stand p l e R s m args below meth c T locs cells slots) (hx : p.tables.exec = Jvm.exec) {pc : Nat} {Ls : Array Slot} {w : Value} {t : FieldType} {rest : List Value} (hret : meth.sig.returnType = some t) (ht : t.isReference = true) (hw : w.isRef = true) (hn : narrow t w = w) (hd : decode c.code pc = .ok (.areturn, 1)) {fs : List Frame}
    (hl : ∀ (f : JFrame) (acts : List Action), f.method = m → f.locked = none → f.entered = [] → (doReturn e (T.setTop f) acts (some w)).1 = T.setFrames fs) : Steps p.tables e below (T.setTop (mkF m pc Ls (w :: rest))) (T.setFrames fs) :=
  retOut X hx hret hn (Or.inr (Or.inr (Or.inr (Or.inr ⟨rfl, ht, hw⟩)))) hd hl
theorem own_lremM {g : JFrame} {target : State} (X : Stand p l e R s m args below meth c T locs cells slots) (hx : p.tables.exec = Jvm.exec) (hg : g.method = m) {x y : Int64} {rest : List Value} (hd : decode c.code g.pc = .ok (.lrem, 1)) (hs : g.stack = .long y :: .long x :: rest) (hy : y ≠ 0)
    (hr : Steps p.tables e below (T.setTop { g with pc := g.pc + 1, stack := .long (x % y) :: rest }) target) : Steps p.tables e below (T.setTop g) target := by
  have q : x - x / y * y = x % y := lrem_mod x y
  exact XS.lrem X.here hx hg hd hs hy (by rw [q]; exact hr)
theorem own_selp {Z s : State} {a0 args : Array Value} {y : MethodName} {n : Nat} (hZ : Z.Warmed39 s.vm) (wi : (Cond.instantiable y.cls n).before a0 Z = true) (wp : (Cond.privateMethod y).before a0 Z = true) (wm : (Cond.instanceMethod y).before a0 Z = true)
    (hy : y.cls ≠ "java/lang/invoke/MethodHandle" ∧ y.cls ≠ "java/lang/invoke/VarHandle") : (Cond.selects y.cls y y).before args s = true := by
  obtain ⟨c, k, h1, h2, h3, h4, -⟩ := Cond.instantiable_spec (mvT (args := args) hZ wi)
  exact selects_self_of_private h1 h2 (by simp only [Bool.or_eq_false_iff] at h4; exact h4.1) (Cond.privateMethod_at (mvP hZ wp (args := #[]))) (mvT hZ wm) hy
end New
end Jvm.RoadKit
namespace Jvm.Pilot.@@N@@
open Jvm Jvm.ClassFile Sem Op Lib Jvm.Free Jvm.Stand Jvm.LawKit Jvm.RoadKit Bundle Jvm.Pilot.@@N@@.Jvm.D
def Q1 (Z : State) (a1 a2 : Addr) (h0 : Heap) (n0 : Nat) (v : Option Value) (h : Heap) (L : List Loc) : Prop := v = none ∧ Fr n0 L ∧ Keep h0 h [a1] ∧ Exa Z h a1 "com/example/conq/conq/model/Histogram$Read" ∧ Fld Z h a1 "com/example/conq/conq/model/Histogram$Read" "cumulative" "[J" (.ref a2)
theorem d1_0 : decode prog_23_method_1_code 0 = .ok (.aload_n 0, 1) := by decide +kernel
theorem d1_1 : decode prog_23_method_1_code 1 = .ok (.invokespecial 1, 3) := by decide +kernel
theorem d1_4 : decode prog_23_method_1_code 4 = .ok (.aload_n 0, 1) := by decide +kernel
theorem d1_5 : decode prog_23_method_1_code 5 = .ok (.aload_n 1, 1) := by decide +kernel
theorem d1_6 : decode prog_23_method_1_code 6 = .ok (.putfield 7, 3) := by decide +kernel
theorem d1_9 : decode prog_23_method_1_code 9 = .ok (.aload_n 0, 1) := by decide +kernel
theorem d1_10 : decode prog_23_method_1_code 10 = .ok (.lload_n 2, 1) := by decide +kernel
theorem d1_11 : decode prog_23_method_1_code 11 = .ok (.putfield 13, 3) := by decide +kernel
theorem d1_14 : decode prog_23_method_1_code 14 = .ok (.return_, 1) := by decide +kernel
theorem pn_com_example_conq_conq_model_Histogram_Read : plainName "com/example/conq/conq/model/Histogram$Read" = true := by first | (simp [plainName, overriddenIn]; done) | decide +kernel
theorem ef_rm1 (m : MethodId) (x0 : Addr) (x1 : Addr) (x2 : Int64) : entryFrame m #[(.ref x0), (.ref x1), (.long x2)] 4 = mkF m 0 #[.val (.ref x0), .val (.ref x1), .val (.long x2), .second] [] := by first | (simp [entryFrame, mkF, argsToLocals, Value.category]; done) | rfl
set_option maxRecDepth 65536 in
set_option maxHeartbeats 40000000 in
theorem rm1 (l : Launch) (Z : State) (a0 : Array Value) (hw : ∀ d ∈ tables_1, d.before a0 Z = true) (ws : List Jvm.Cond) (a1 a2 : Addr) (q3 : Int64) (h0 : Heap) (n0 : Nat) (Z0 : n0 ≤ h0.size) (E1 : Exa Z h0 a1 "com/example/conq/conq/model/Histogram$Read") (F0 : Fld Z h0 a1 "com/example/conq/conq/model/Histogram$Read" "cumulative" "[J" .null) (F1 : Fld Z h0 a1 "com/example/conq/conq/model/Histogram$Read" "sum" "J" (.long (0 : Int64))) (g1 : n0 ≤ a1) :
    MetFree l (⟨"com/example/conq/conq/model/Histogram$Read", "<init>", "([JJ)V"⟩ : MethodName) (head1 (Jvm.Cond.code (⟨"com/example/conq/conq/model/Histogram$Read", "<init>", "([JJ)V"⟩ : MethodName) prog_23_method_1_code 4 none :: ws) ({ frames := 1, cells := 0, slots := 0, locals := 12 } : Room)) (fun a U => a = #[(.ref a1), (.ref a2), (.long q3)] ∧ Z.Warmed39 U.vm ∧ U.heap = h0) (fun _ _ _ _ _ => True) (fun _ U o U' => ∃ v L, o = .returned v ∧ Q1 Z a1 a2 h0 n0 v U'.heap L ∧ FrameEnd U o U' L ({ frames := 1, cells := 0, slots := 0, locals := 12 } : Room).cells ({ frames := 1, cells := 0, slots := 0, locals := 12 } : Room).slots) := by
  refine MetFree.of_bodySF (plainFor_of_name pn_com_example_conq_conq_model_Histogram_Read) hisR ?_
  intro p e s m args below meth c s₁ Bd hml0 hP hK
  obtain ⟨rfl, hZ, hh⟩ := hP
  have hx := Bd.exec
  have hby := Bd.bytes
  have hml : c.maxLocals = 4 := hml0
  have hown : s.vm.findClass "com/example/conq/conq/model/Histogram$Read" = some m.cls := findClass_of_methodNamed Bd.named
  have hnm := (name_of_methodNamed Bd.named Bd.method).1
  have X0 : Stand p l e ({ frames := 1, cells := 0, slots := 0, locals := 12 } : Room) s m #[(.ref a1), (.ref a2), (.long q3)] below meth c s₁ [] 0 0 := Stand.of_body Bd
  have e0 : s₁.heap = h0 := by rw [← hh, Bd.state]; rfl
  have N0 := Fr.nil n0
  have KP0 : Keep h0 h0 [a1] := Keep.refl h0 _
  obtain ⟨G, hG⟩ : ∃ G : State, G = s₁.setTop (entryFrame m #[(.ref a1), (.ref a2), (.long q3)] 4) := ⟨_, rfl⟩
  have pre0 : ∀ t, Steps p.tables e below (s₁.setTop (mkF m 0 #[.val (.ref a1), .val (.ref a2), .val (.long q3), .second] [])) t → Steps p.tables e below G t := fun t k => hG ▸ castTop (ef_rm1 m a1 a2 q3) k
  have K1 : ∀ t, Steps p.tables e below (s₁.setTop (mkF m 1 #[.val (.ref a1), .val (.ref a2), .val (.long q3), .second] [(.ref a1)])) t → Steps p.tables e below G t := by
    intro t k
    refine pre0 t ?_
    show Steps p.tables e below (s₁.setTop (mkF m 0 #[.val (.ref a1), .val (.ref a2), .val (.long q3), .second] [])) _
    refine XS.aloadN X0.here hx rfl (hb hby d1_0) rfl rfl ?_
    show Steps p.tables e below (s₁.setTop (mkF m 1 #[.val (.ref a1), .val (.ref a2), .val (.long q3), .second] [(.ref a1)])) _
    exact k
  obtain ⟨T2, X2, e2, st2⟩ := initO X0 hx hZ hown (hw _ (List.mem_of_getElem? (i := 7) rfl)) (hw _ (List.mem_of_getElem? (i := 8) rfl)) (hw _ (List.mem_of_getElem? (i := 9) rfl)) e0 (g := (mkF m 1 #[.val (.ref a1), .val (.ref a2), .val (.long q3), .second] [(.ref a1)])) rfl (by rw [hml]; rfl) rfl (hb hby d1_1) (by decide) (W := 0) (by show 2 * 0 + _ ≤ _; exact Nat.le_of_eq rfl) (by decide)
  have K3 : ∀ t, Steps p.tables e below (T2.setTop (mkF m 4 #[.val (.ref a1), .val (.ref a2), .val (.long q3), .second] [])) t → Steps p.tables e below G t := fun t k => K1 t (st2 t k)
  have K4 : ∀ t, Steps p.tables e below (T2.setTop (mkF m 6 #[.val (.ref a1), .val (.ref a2), .val (.long q3), .second] [(.ref a2), (.ref a1)])) t → Steps p.tables e below G t := by
    intro t k
    refine K3 t ?_
    show Steps p.tables e below (T2.setTop (mkF m 4 #[.val (.ref a1), .val (.ref a2), .val (.long q3), .second] [])) _
    refine XS.aloadN X2.here hx rfl (hb hby d1_4) rfl rfl ?_
    show Steps p.tables e below (T2.setTop (mkF m 5 #[.val (.ref a1), .val (.ref a2), .val (.long q3), .second] [(.ref a1)])) _
    refine XS.aloadN X2.here hx rfl (hb hby d1_5) rfl rfl ?_
    show Steps p.tables e below (T2.setTop (mkF m 6 #[.val (.ref a1), .val (.ref a2), .val (.long q3), .second] [(.ref a2), (.ref a1)])) _
    exact k
  obtain ⟨T5, h5, X5, e5, W5, st5⟩ := putF X2 hx hZ hown (host := "") (Or.inl (hw _ (List.mem_of_getElem? (i := 10) rfl))) Via.refl e2 F0 E1 (Or.inr ⟨(hw _ (List.mem_of_getElem? (i := 11) rfl)), rfl, hnm⟩) (hw _ (List.mem_of_getElem? (i := 2) rfl)) (ty := (.array .long)) (by decide) rfl rfl (g := (mkF m 6 #[.val (.ref a1), .val (.ref a2), .val (.long q3), .second] [(.ref a2), (.ref a1)])) rfl rfl (hb hby d1_6)
  have K6 : ∀ t, Steps p.tables e below (T5.setTop (mkF m 9 #[.val (.ref a1), .val (.ref a2), .val (.long q3), .second] [])) t → Steps p.tables e below G t := fun t k => K4 t (st5 t k)
  have f7 := E1.wr W5
  have f8 := F0.same W5
  have f9 := F1.other W5 (Or.inr (slot_ne (Or.inr (hw _ (List.mem_of_getElem? (i := 13) rfl))) (Or.inr (hw _ (List.mem_of_getElem? (i := 11) rfl))) (by decide) (t := .long) (t' := (.array .long)) (by decide) (by decide)))
  have Z10 : n0 ≤ h5.size := Nat.le_trans Z0 (Keep.of_wr W5).1
  have KP11 : Keep h0 h5 [a1] := KP0.wr W5 (Or.inl (List.mem_of_getElem? (i := 0) rfl))
  have N12 := Fr.snoc X5 N0 g1
  have K13 : ∀ t, Steps p.tables e below (T5.setTop (mkF m 11 #[.val (.ref a1), .val (.ref a2), .val (.long q3), .second] [(.long q3), (.ref a1)])) t → Steps p.tables e below G t := by
    intro t k
    refine K6 t ?_
    show Steps p.tables e below (T5.setTop (mkF m 9 #[.val (.ref a1), .val (.ref a2), .val (.long q3), .second] [])) _
    refine XS.aloadN X5.here hx rfl (hb hby d1_9) rfl rfl ?_
    show Steps p.tables e below (T5.setTop (mkF m 10 #[.val (.ref a1), .val (.ref a2), .val (.long q3), .second] [(.ref a1)])) _
    refine XS.lloadN X5.here hx rfl (hb hby d1_10) rfl ?_
    show Steps p.tables e below (T5.setTop (mkF m 11 #[.val (.ref a1), .val (.ref a2), .val (.long q3), .second] [(.long q3), (.ref a1)])) _
    exact k
  obtain ⟨T14, h14, X14, e14, W14, st14⟩ := putF X5 hx hZ hown (host := "") (Or.inl (hw _ (List.mem_of_getElem? (i := 12) rfl))) Via.refl e5 f9 f7 (Or.inr ⟨(hw _ (List.mem_of_getElem? (i := 13) rfl)), rfl, hnm⟩) (hw _ (List.mem_of_getElem? (i := 2) rfl)) (ty := .long) (by decide) rfl rfl (g := (mkF m 11 #[.val (.ref a1), .val (.ref a2), .val (.long q3), .second] [(.long q3), (.ref a1)])) rfl rfl (hb hby d1_11)
  have K15 : ∀ t, Steps p.tables e below (T14.setTop (mkF m 14 #[.val (.ref a1), .val (.ref a2), .val (.long q3), .second] [])) t → Steps p.tables e below G t := fun t k => K13 t (st14 t k)
  have f16 := f7.wr W14
  have f17 := f8.other W14 (Or.inr (slot_ne (Or.inr (hw _ (List.mem_of_getElem? (i := 11) rfl))) (Or.inr (hw _ (List.mem_of_getElem? (i := 13) rfl))) (by decide) (t := (.array .long)) (t' := .long) (by decide) (by decide)))
  have f18 := f9.same W14
  have Z19 : n0 ≤ h14.size := Nat.le_trans Z10 (Keep.of_wr W14).1
  have KP20 : Keep h0 h14 [a1] := KP11.wr W14 (Or.inl (List.mem_of_getElem? (i := 0) rfl))
  have N21 := Fr.snoc X14 N12 g1
  obtain ⟨fs, hr, hrun, hended, hW, hsame⟩ := X14.leave (v := none) (fun _ => rfl)
  have KF := K15
  rw [hG] at KF
  refine ⟨_, _, KF _ ?_, hrun, hended, _, _, rfl, ?_, ⟨_, rfl⟩, hW, hsame.mono (by decide) (by decide)⟩
  · show Steps p.tables e below (T14.setTop (mkF m 14 #[.val (.ref a1), .val (.ref a2), .val (.long q3), .second] [])) _
    exact X14.returnOut hx Bd.returns (hb hby d1_14) hr
  · show Q1 Z a1 a2 h0 n0 _ T14.heap _
    rw [e14]
    exact ⟨rfl, N21, KP20, f16, f17⟩
def Q3 (a1 a2 : Addr) (k : ClassId) (z : Int32) (vs : List Value) (r : Int64) (h0 : Heap) (n0 : Nat) (v : Option Value) (h : Heap) (L : List Loc) : Prop := v = some (.long r) ∧ Fr n0 L ∧ h = h0
theorem d3_0 : decode prog_23_method_3_code 0 = .ok (.aload_n 0, 1) := by decide +kernel
theorem d3_1 : decode prog_23_method_3_code 1 = .ok (.getfield 7, 3) := by decide +kernel
theorem d3_4 : decode prog_23_method_3_code 4 = .ok (.aload_n 0, 1) := by decide +kernel
theorem d3_5 : decode prog_23_method_3_code 5 = .ok (.getfield 7, 3) := by decide +kernel
theorem d3_8 : decode prog_23_method_3_code 8 = .ok (.arraylength, 1) := by decide +kernel
theorem d3_9 : decode prog_23_method_3_code 9 = .ok (.iconst 1, 1) := by decide +kernel
theorem d3_10 : decode prog_23_method_3_code 10 = .ok (.isub, 1) := by decide +kernel
theorem d3_11 : decode prog_23_method_3_code 11 = .ok (.laload, 1) := by decide +kernel
theorem d3_12 : decode prog_23_method_3_code 12 = .ok (.lreturn, 1) := by decide +kernel
theorem ef_rm3 (m : MethodId) (x0 : Addr) : entryFrame m #[(.ref x0)] 1 = mkF m 0 #[.val (.ref x0)] [] := by first | (simp [entryFrame, mkF, argsToLocals, Value.category]; done) | rfl
set_option maxRecDepth 65536 in
set_option maxHeartbeats 40000000 in
theorem rm3 (l : Launch) (Z : State) (a0 : Array Value) (hw : ∀ d ∈ tables_1, d.before a0 Z = true) (ws : List Jvm.Cond) (a1 a2 : Addr) (k : ClassId) (z : Int32) (vs : List Value) (r : Int64) (h0 : Heap) (n0 : Nat) (Z0 : n0 ≤ h0.size) (F1 : Fld Z h0 a1 "com/example/conq/conq/model/Histogram$Read" "cumulative" "[J" (.ref a2)) (V1 : Arv Z h0 a2 k .long z vs (.long (0 : Int64))) (hi : ¬ (z - (1 : Int32)) < 0 ∧ (z - (1 : Int32)) < z) (hv : vs.getD (z - (1 : Int32)).toNatClampNeg (.long (0 : Int64)) = .long r) :
    MetFree l (⟨"com/example/conq/conq/model/Histogram$Read", "getCount", "()J"⟩ : MethodName) (head1 (Jvm.Cond.code (⟨"com/example/conq/conq/model/Histogram$Read", "getCount", "()J"⟩ : MethodName) prog_23_method_3_code 1 (some .long) :: ws) ({ frames := 0, cells := 0, slots := 0, locals := 0 } : Room)) (fun a U => a = #[(.ref a1)] ∧ Z.Warmed39 U.vm ∧ U.heap = h0) (fun _ _ _ _ _ => True) (fun _ U o U' => ∃ v L, o = .returned v ∧ Q3 a1 a2 k z vs r h0 n0 v U'.heap L ∧ FrameEnd U o U' L ({ frames := 0, cells := 0, slots := 0, locals := 0 } : Room).cells ({ frames := 0, cells := 0, slots := 0, locals := 0 } : Room).slots) := by
  refine MetFree.of_bodySF (plainFor_of_name pn_com_example_conq_conq_model_Histogram_Read) hisR ?_
  intro p e s m args below meth c s₁ Bd hml0 hP hK
  obtain ⟨rfl, hZ, hh⟩ := hP
  have hx := Bd.exec
  have hby := Bd.bytes
  have hml : c.maxLocals = 1 := hml0
  have hown : s.vm.findClass "com/example/conq/conq/model/Histogram$Read" = some m.cls := findClass_of_methodNamed Bd.named
  have hnm := (name_of_methodNamed Bd.named Bd.method).1
  have X0 : Stand p l e ({ frames := 0, cells := 0, slots := 0, locals := 0 } : Room) s m #[(.ref a1)] below meth c s₁ [] 0 0 := Stand.of_body Bd
  have e0 : s₁.heap = h0 := by rw [← hh, Bd.state]; rfl
  have N0 := Fr.nil n0
  have KP0 : Keep h0 h0 [] := Keep.refl h0 _
  obtain ⟨G, hG⟩ : ∃ G : State, G = s₁.setTop (entryFrame m #[(.ref a1)] 1) := ⟨_, rfl⟩
  have pre0 : ∀ t, Steps p.tables e below (s₁.setTop (mkF m 0 #[.val (.ref a1)] [])) t → Steps p.tables e below G t := fun t k => hG ▸ castTop (ef_rm3 m a1) k
  have K1 : ∀ t, Steps p.tables e below (s₁.setTop (mkF m 1 #[.val (.ref a1)] [(.ref a1)])) t → Steps p.tables e below G t := by
    intro t k
    refine pre0 t ?_
    show Steps p.tables e below (s₁.setTop (mkF m 0 #[.val (.ref a1)] [])) _
    refine XS.aloadN X0.here hx rfl (hb hby d3_0) rfl rfl ?_
    show Steps p.tables e below (s₁.setTop (mkF m 1 #[.val (.ref a1)] [(.ref a1)])) _
    exact k
  obtain ⟨T2, X2, e2, st2⟩ := getF X0 hx hZ hown (host := "") (Or.inl (hw _ (List.mem_of_getElem? (i := 10) rfl))) Via.refl e0 F1 (g := (mkF m 1 #[.val (.ref a1)] [(.ref a1)])) rfl rfl (hb hby d3_1)
  have K3 : ∀ t, Steps p.tables e below (T2.setTop (mkF m 4 #[.val (.ref a1)] [(.ref a2)])) t → Steps p.tables e below G t := fun t k => K1 t (st2 t k)
  have K4 : ∀ t, Steps p.tables e below (T2.setTop (mkF m 5 #[.val (.ref a1)] [(.ref a1), (.ref a2)])) t → Steps p.tables e below G t := by
    intro t k
    refine K3 t ?_
    show Steps p.tables e below (T2.setTop (mkF m 4 #[.val (.ref a1)] [(.ref a2)])) _
    refine XS.aloadN X2.here hx rfl (hb hby d3_4) rfl rfl ?_
    show Steps p.tables e below (T2.setTop (mkF m 5 #[.val (.ref a1)] [(.ref a1), (.ref a2)])) _
    exact k
  obtain ⟨T5, X5, e5, st5⟩ := getF X2 hx hZ hown (host := "") (Or.inl (hw _ (List.mem_of_getElem? (i := 10) rfl))) Via.refl e2 F1 (g := (mkF m 5 #[.val (.ref a1)] [(.ref a1), (.ref a2)])) rfl rfl (hb hby d3_5)
  have K6 : ∀ t, Steps p.tables e below (T5.setTop (mkF m 8 #[.val (.ref a1)] [(.ref a2), (.ref a2)])) t → Steps p.tables e below G t := fun t k => K4 t (st5 t k)
  obtain ⟨cl7, Ar7, -, S7, M7, -, -⟩ := id V1
  have K8 : ∀ t, Steps p.tables e below (T5.setTop (mkF m 9 #[.val (.ref a1)] [(.int z), (.ref a2)])) t → Steps p.tables e below G t := by
    intro t k
    refine K6 t ?_
    refine X5.arraylength hx (by rw [e5]; exact Ar7.1) (State.isArrayOf_alike hZ.alike Ar7.2.1) (g := (mkF m 8 #[.val (.ref a1)] [(.ref a2), (.ref a2)])) rfl rfl (hb hby d3_8) _ ?_
    rw [len_of S7 M7]
    exact k
  have K9 : ∀ t, Steps p.tables e below (T5.setTop (mkF m 11 #[.val (.ref a1)] [(.int (z - (1 : Int32))), (.ref a2)])) t → Steps p.tables e below G t := by
    intro t k
    refine K8 t ?_
    show Steps p.tables e below (T5.setTop (mkF m 9 #[.val (.ref a1)] [(.int z), (.ref a2)])) _
    refine XS.iconst X5.here hx rfl (hb hby d3_9) ?_
    show Steps p.tables e below (T5.setTop (mkF m 10 #[.val (.ref a1)] [(.int (1 : Int32)), (.int z), (.ref a2)])) _
    refine XS.isub X5.here hx rfl (hb hby d3_10) rfl ?_
    show Steps p.tables e below (T5.setTop (mkF m 11 #[.val (.ref a1)] [(.int (z - (1 : Int32))), (.ref a2)])) _
    exact k
  obtain ⟨cl10, Ar10, q10, S10, M10, Ha10, Ga10⟩ := id V1
  have hin10 : ¬ ((z - (1 : Int32)) < 0 ∨ cl10.slots.size ≤ ((z - (1 : Int32))).toNatClampNeg) := inb_of S10 hi
  have hat10 : cl10.slots[((z - (1 : Int32))).toNatClampNeg]? = some (.long r) := Ha10.at hin10 hv
  have K11 : ∀ t, Steps p.tables e below (T5.setTop (mkF m 12 #[.val (.ref a1)] [(.long r)])) t → Steps p.tables e below G t := fun t k => K9 t (X5.laload hx (j := (z - (1 : Int32))) (v := (.long r)) (by rw [e5]; exact Ar10.1) (State.isArrayOf_alike hZ.alike Ar10.2.1) Ar10.2.2 hin10 hat10 (g := (mkF m 11 #[.val (.ref a1)] [(.int (z - (1 : Int32))), (.ref a2)])) rfl rfl (hb hby d3_11) _ k)
  obtain ⟨fs, hr, hrun, hended, hW, hsame⟩ := X5.leave (v := some (.long r)) (fun h => by rw [Bd.returns] at h; cases h)
  have KF := K11
  rw [hG] at KF
  refine ⟨_, _, KF _ ?_, hrun, hended, _, _, rfl, ?_, ⟨_, rfl⟩, hW, hsame.mono (by decide) (by decide)⟩
  · show Steps p.tables e below (T5.setTop (mkF m 12 #[.val (.ref a1)] [(.long r)])) _
    exact own_retL X5 hx Bd.returns (hb hby d3_12) hr
  · show Q3 a1 a2 k z vs r h0 n0 _ T5.heap _
    rw [e5]
    exact ⟨rfl, N0, rfl⟩
theorem own_n (x : Int32) : (1 : Int32) + (x &&& 3) = 1 ∨ (1 : Int32) + (x &&& 3) = 2 ∨ (1 : Int32) + (x &&& 3) = 3 ∨ (1 : Int32) + (x &&& 3) = 4 := by
  have m := c_mask x 3 2 (by decide) (by decide)
  have q : (x &&& 3).toInt = 0 ∨ (x &&& 3).toInt = 1 ∨ (x &&& 3).toInt = 2 ∨ (x &&& 3).toInt = 3 := by omega
  have e : ∀ k n : Int32, k.toInt = n.toInt → k = n := fun k n h => Int32.toInt_inj.mp h
  rcases q with q | q | q | q
  · rw [e _ 0 q]; exact Or.inl rfl
  · rw [e _ 1 q]; exact Or.inr (Or.inl rfl)
  · rw [e _ 2 q]; exact Or.inr (Or.inr (Or.inl rfl))
  · rw [e _ 3 q]; exact Or.inr (Or.inr (Or.inr rfl))
def Q0 (n0 : Nat) (v : Option Value) (h : Heap) (L : List Loc) : Prop := v = some (.int 1) ∧ Fr n0 L
theorem pn_com_example_conq_conq_model_ReadGetCountPinLaw : plainName "com/example/conq/conq/model/ReadGetCountPinLaw" = true := by first | (simp [plainName, overriddenIn]; done) | decide +kernel
theorem pd_0 : parseMethodDescriptor "([JJ)V" = some ⟨[(.array .long), .long], none⟩ := by decide +kernel
theorem pd_1 : parseMethodDescriptor "()J" = some ⟨[], some .long⟩ := by decide +kernel
theorem ef_rm0 (m : MethodId) (x0 : Int32) (x1 : Int64) (x2 : Int64) (x3 : Int64) (x4 : Int64) (x5 : Int64) : entryFrame m #[(.int x0), (.long x1), (.long x2), (.long x3), (.long x4), (.long x5)] maxLocals = mkF m 0 #[.val (.int x0), .val (.long x1), .second, .val (.long x2), .second, .val (.long x3), .second, .val (.long x4), .second, .val (.long x5), .second, .unset, .unset, .unset, .unset, .unset] [] := by first | (simp [entryFrame, mkF, argsToLocals, Value.category, maxLocals]; done) | rfl
set_option maxRecDepth 65536 in
set_option maxHeartbeats 40000000 in
theorem rm0 (l : Launch) (Z : State) (a0 : Array Value) (hw : ∀ d ∈ tables_1, d.before a0 Z = true) (ws : List Jvm.Cond) (p1 : Int32) (q2 q3 q4 q5 q6 : Int64) (h0 : Heap) (n0 : Nat) (Z0 : n0 ≤ h0.size) :
    MetFree l x (head1 (Jvm.Cond.code x code maxLocals ret :: ws) room_1) (fun a U => a = #[(.int p1), (.long q2), (.long q3), (.long q4), (.long q5), (.long q6)] ∧ Z.Warmed39 U.vm ∧ U.heap = h0) (fun _ _ _ _ _ => True) (fun _ U o U' => ∃ v L, o = .returned v ∧ Q0 n0 v U'.heap L ∧ FrameEnd U o U' L room_1.cells room_1.slots) := by
  refine MetFree.of_bodySF (plainFor_of_name pn_com_example_conq_conq_model_ReadGetCountPinLaw) hisR ?_
  intro p e s m args below meth c s₁ Bd hml0 hP hK
  obtain ⟨rfl, hZ, hh⟩ := hP
  have hx := Bd.exec
  have hby := Bd.bytes
  have hml : c.maxLocals = 16 := hml0
  have hown : s.vm.findClass "com/example/conq/conq/model/ReadGetCountPinLaw" = some m.cls := findClass_of_methodNamed Bd.named
  have hnm := (name_of_methodNamed Bd.named Bd.method).1
  have X0 : Stand p l e room_1 s m #[(.int p1), (.long q2), (.long q3), (.long q4), (.long q5), (.long q6)] below meth c s₁ [] 0 0 := Stand.of_body Bd
  have e0 : s₁.heap = h0 := by rw [← hh, Bd.state]; rfl
  have N0 := Fr.nil n0
  have KP0 : Keep h0 h0 [] := Keep.refl h0 _
  obtain ⟨G, hG⟩ : ∃ G : State, G = s₁.setTop (entryFrame m #[(.int p1), (.long q2), (.long q3), (.long q4), (.long q5), (.long q6)] maxLocals) := ⟨_, rfl⟩
  have pre0 : ∀ t, Steps p.tables e below (s₁.setTop (mkF m 0 #[.val (.int p1), .val (.long q2), .second, .val (.long q3), .second, .val (.long q4), .second, .val (.long q5), .second, .val (.long q6), .second, .unset, .unset, .unset, .unset, .unset] [])) t → Steps p.tables e below G t := fun t k => hG ▸ castTop (ef_rm0 m p1 q2 q3 q4 q5 q6) k
  have K1 : ∀ t, Steps p.tables e below (s₁.setTop (mkF m 7 #[.val (.int p1), .val (.long q2), .second, .val (.long q3), .second, .val (.long q4), .second, .val (.long q5), .second, .val (.long q6), .second, .val (.int ((1 : Int32) + (p1 &&& (3 : Int32)))), .unset, .unset, .unset, .unset] [])) t → Steps p.tables e below G t := by
    intro t k
    refine pre0 t ?_
    show Steps p.tables e below (s₁.setTop (mkF m 0 #[.val (.int p1), .val (.long q2), .second, .val (.long q3), .second, .val (.long q4), .second, .val (.long q5), .second, .val (.long q6), .second, .unset, .unset, .unset, .unset, .unset] [])) _
    refine XS.iconst X0.here hx rfl (hb hby at_0) ?_
    show Steps p.tables e below (s₁.setTop (mkF m 1 #[.val (.int p1), .val (.long q2), .second, .val (.long q3), .second, .val (.long q4), .second, .val (.long q5), .second, .val (.long q6), .second, .unset, .unset, .unset, .unset, .unset] [(.int (1 : Int32))])) _
    refine XS.iloadN X0.here hx rfl (hb hby at_1) rfl ?_
    show Steps p.tables e below (s₁.setTop (mkF m 2 #[.val (.int p1), .val (.long q2), .second, .val (.long q3), .second, .val (.long q4), .second, .val (.long q5), .second, .val (.long q6), .second, .unset, .unset, .unset, .unset, .unset] [(.int p1), (.int (1 : Int32))])) _
    refine XS.iconst X0.here hx rfl (hb hby at_2) ?_
    show Steps p.tables e below (s₁.setTop (mkF m 3 #[.val (.int p1), .val (.long q2), .second, .val (.long q3), .second, .val (.long q4), .second, .val (.long q5), .second, .val (.long q6), .second, .unset, .unset, .unset, .unset, .unset] [(.int (3 : Int32)), (.int p1), (.int (1 : Int32))])) _
    refine XS.iand X0.here hx rfl (hb hby at_3) rfl ?_
    show Steps p.tables e below (s₁.setTop (mkF m 4 #[.val (.int p1), .val (.long q2), .second, .val (.long q3), .second, .val (.long q4), .second, .val (.long q5), .second, .val (.long q6), .second, .unset, .unset, .unset, .unset, .unset] [(.int (p1 &&& (3 : Int32))), (.int (1 : Int32))])) _
    refine XS.iadd X0.here hx rfl (hb hby at_4) rfl ?_
    show Steps p.tables e below (s₁.setTop (mkF m 5 #[.val (.int p1), .val (.long q2), .second, .val (.long q3), .second, .val (.long q4), .second, .val (.long q5), .second, .val (.long q6), .second, .unset, .unset, .unset, .unset, .unset] [(.int ((1 : Int32) + (p1 &&& (3 : Int32))))])) _
    refine XS.istore X0.here hx rfl (hb hby at_5) rfl (l' := #[.val (.int p1), .val (.long q2), .second, .val (.long q3), .second, .val (.long q4), .second, .val (.long q5), .second, .val (.long q6), .second, .val (.int ((1 : Int32) + (p1 &&& (3 : Int32)))), .unset, .unset, .unset, .unset]) rfl ?_
    show Steps p.tables e below (s₁.setTop (mkF m 7 #[.val (.int p1), .val (.long q2), .second, .val (.long q3), .second, .val (.long q4), .second, .val (.long q5), .second, .val (.long q6), .second, .val (.int ((1 : Int32) + (p1 &&& (3 : Int32)))), .unset, .unset, .unset, .unset] [])) _
    exact k
  rcases own_n p1 with hN | hN | hN | hN
  · have K2 : ∀ t, Steps p.tables e below (s₁.setTop (mkF m 7 #[.val (.int p1), .val (.long q2), .second, .val (.long q3), .second, .val (.long q4), .second, .val (.long q5), .second, .val (.long q6), .second, .val (.int (1 : Int32)), .unset, .unset, .unset, .unset] [])) t → Steps p.tables e below G t := by have q := K1; rw [hN] at q; exact q
    have K3 : ∀ t, Steps p.tables e below (s₁.setTop (mkF m 9 #[.val (.int p1), .val (.long q2), .second, .val (.long q3), .second, .val (.long q4), .second, .val (.long q5), .second, .val (.long q6), .second, .val (.int (1 : Int32)), .unset, .unset, .unset, .unset] [(.int (1 : Int32))])) t → Steps p.tables e below G t := by
      intro t k
      refine K2 t ?_
      show Steps p.tables e below (s₁.setTop (mkF m 7 #[.val (.int p1), .val (.long q2), .second, .val (.long q3), .second, .val (.long q4), .second, .val (.long q5), .second, .val (.long q6), .second, .val (.int (1 : Int32)), .unset, .unset, .unset, .unset] [])) _
      refine XS.iload X0.here hx rfl (hb hby at_7) rfl ?_
      show Steps p.tables e below (s₁.setTop (mkF m 9 #[.val (.int p1), .val (.long q2), .second, .val (.long q3), .second, .val (.long q4), .second, .val (.long q5), .second, .val (.long q6), .second, .val (.int (1 : Int32)), .unset, .unset, .unset, .unset] [(.int (1 : Int32))])) _
      exact k
    obtain ⟨T4, h4, k4, X4, e4, E4, A4, st4⟩ := newP X0 hx hZ (hw _ (List.mem_of_getElem? (i := 0) rfl)) e0 (g := (mkF m 9 #[.val (.int p1), .val (.long q2), .second, .val (.long q3), .second, .val (.long q4), .second, .val (.long q5), .second, .val (.long q6), .second, .val (.int (1 : Int32)), .unset, .unset, .unset, .unset] [(.int (1 : Int32))])) rfl (hb hby at_9) rfl (by decide) (cap := 1) (by decide) (by decide) (by decide) (by decide)
    obtain ⟨b4, g4⟩ : ∃ z, z = h0.size := ⟨_, rfl⟩
    rw [← g4] at A4 st4
    have g_b4 : n0 ≤ b4 := Nat.le_trans Z0 (Nat.le_of_eq g4.symm)
    have sz_b4 : h0.size ≤ b4 := Nat.le_trans KP0.1 (Nat.le_of_eq g4.symm)
    have Z5 : n0 ≤ h4.size := Nat.le_trans Z0 E4.1
    have KP6 : Keep h0 h4 [] := KP0.ext E4
    have K7 : ∀ t, Steps p.tables e below (T4.setTop (mkF m 11 #[.val (.int p1), .val (.long q2), .second, .val (.long q3), .second, .val (.long q4), .second, .val (.long q5), .second, .val (.long q6), .second, .val (.int (1 : Int32)), .unset, .unset, .unset, .unset] [(.ref b4)])) t → Steps p.tables e below G t := fun t k => K3 t (st4 t k)
    have V4 : Arv Z h4 b4 k4 .long (1 : Int32) [(.long (0 : Int64))] (.long (0 : Int64)) := (Arv.new A4 (by decide)).pad (pad_rep [] (.long (0 : Int64)) 1)
    have K8 : ∀ t, Steps p.tables e below (T4.setTop (mkF m 17 #[.val (.int p1), .val (.long q2), .second, .val (.long q3), .second, .val (.long q4), .second, .val (.long q5), .second, .val (.long q6), .second, .val (.int (1 : Int32)), .val (.ref b4), .unset, .unset, .unset] [(.long q2), (.int (0 : Int32)), (.ref b4)])) t → Steps p.tables e below G t := by
      intro t k
      refine K7 t ?_
      show Steps p.tables e below (T4.setTop (mkF m 11 #[.val (.int p1), .val (.long q2), .second, .val (.long q3), .second, .val (.long q4), .second, .val (.long q5), .second, .val (.long q6), .second, .val (.int (1 : Int32)), .unset, .unset, .unset, .unset] [(.ref b4)])) _
      refine XS.astore X4.here hx rfl (hb hby at_11) rfl rfl (l' := #[.val (.int p1), .val (.long q2), .second, .val (.long q3), .second, .val (.long q4), .second, .val (.long q5), .second, .val (.long q6), .second, .val (.int (1 : Int32)), .val (.ref b4), .unset, .unset, .unset]) rfl ?_
      show Steps p.tables e below (T4.setTop (mkF m 13 #[.val (.int p1), .val (.long q2), .second, .val (.long q3), .second, .val (.long q4), .second, .val (.long q5), .second, .val (.long q6), .second, .val (.int (1 : Int32)), .val (.ref b4), .unset, .unset, .unset] [])) _
      refine XS.aload X4.here hx rfl (hb hby at_13) rfl rfl ?_
      show Steps p.tables e below (T4.setTop (mkF m 15 #[.val (.int p1), .val (.long q2), .second, .val (.long q3), .second, .val (.long q4), .second, .val (.long q5), .second, .val (.long q6), .second, .val (.int (1 : Int32)), .val (.ref b4), .unset, .unset, .unset] [(.ref b4)])) _
      refine XS.iconst X4.here hx rfl (hb hby at_15) ?_
      show Steps p.tables e below (T4.setTop (mkF m 16 #[.val (.int p1), .val (.long q2), .second, .val (.long q3), .second, .val (.long q4), .second, .val (.long q5), .second, .val (.long q6), .second, .val (.int (1 : Int32)), .val (.ref b4), .unset, .unset, .unset] [(.int (0 : Int32)), (.ref b4)])) _
      refine XS.lloadN X4.here hx rfl (hb hby at_16) rfl ?_
      show Steps p.tables e below (T4.setTop (mkF m 17 #[.val (.int p1), .val (.long q2), .second, .val (.long q3), .second, .val (.long q4), .second, .val (.long q5), .second, .val (.long q6), .second, .val (.int (1 : Int32)), .val (.ref b4), .unset, .unset, .unset] [(.long q2), (.int (0 : Int32)), (.ref b4)])) _
      exact k
    obtain ⟨cl9, Ar9, q9, S9, M9, Ha9, Ga9⟩ := id V4
    have hin9 : ¬ ((0 : Int32) < 0 ∨ cl9.slots.size ≤ ((0 : Int32)).toNatClampNeg) := inb_of S9 ⟨by decide, by decide⟩
    obtain ⟨T9, h9, X9, e9, W9, st9⟩ := stJ X4 hx hZ e4 Ar9 (j := (0 : Int32)) hin9 (g := (mkF m 17 #[.val (.int p1), .val (.long q2), .second, .val (.long q3), .second, .val (.long q4), .second, .val (.long q5), .second, .val (.long q6), .second, .val (.int (1 : Int32)), .val (.ref b4), .unset, .unset, .unset] [(.long q2), (.int (0 : Int32)), (.ref b4)])) rfl rfl (hb hby at_17)
    have V9 : Arv Z h9 b4 k4 .long (1 : Int32) [(.long q2)] (.long (0 : Int64)) := Arv.set Ar9 q9 S9 M9 Ha9 Ga9 rfl W9 0 rfl (Nat.le_of_ble_eq_true rfl)
    have K10 : ∀ t, Steps p.tables e below (T9.setTop (mkF m 18 #[.val (.int p1), .val (.long q2), .second, .val (.long q3), .second, .val (.long q4), .second, .val (.long q5), .second, .val (.long q6), .second, .val (.int (1 : Int32)), .val (.ref b4), .unset, .unset, .unset] [])) t → Steps p.tables e below G t := fun t k => K8 t (st9 t k)
    have Z11 : n0 ≤ h9.size := Nat.le_trans Z5 (Keep.of_wr W9).1
    have KP12 : Keep h0 h9 [] := KP6.wr W9 (Or.inr sz_b4)
    have N13 := Fr.snoc X9 N0 g_b4
    have K14 : ∀ t, Steps p.tables e below (T9.setTop (mkF m 94 #[.val (.int p1), .val (.long q2), .second, .val (.long q3), .second, .val (.long q4), .second, .val (.long q5), .second, .val (.long q6), .second, .val (.int (1 : Int32)), .val (.ref b4), .val (.long q2), .second, .unset] [])) t → Steps p.tables e below G t := by
      intro t k
      refine K10 t ?_
      show Steps p.tables e below (T9.setTop (mkF m 18 #[.val (.int p1), .val (.long q2), .second, .val (.long q3), .second, .val (.long q4), .second, .val (.long q5), .second, .val (.long q6), .second, .val (.int (1 : Int32)), .val (.ref b4), .unset, .unset, .unset] [])) _
      refine XS.iload X9.here hx rfl (hb hby at_18) rfl ?_
      show Steps p.tables e below (T9.setTop (mkF m 20 #[.val (.int p1), .val (.long q2), .second, .val (.long q3), .second, .val (.long q4), .second, .val (.long q5), .second, .val (.long q6), .second, .val (.int (1 : Int32)), .val (.ref b4), .unset, .unset, .unset] [(.int (1 : Int32))])) _
      refine XS.iconst X9.here hx rfl (hb hby at_20) ?_
      show Steps p.tables e below (T9.setTop (mkF m 21 #[.val (.int p1), .val (.long q2), .second, .val (.long q3), .second, .val (.long q4), .second, .val (.long q5), .second, .val (.long q6), .second, .val (.int (1 : Int32)), .val (.ref b4), .unset, .unset, .unset] [(.int (1 : Int32)), (.int (1 : Int32))])) _
      refine XS.icmpYes X9.here hx rfl (pc0 := 21) (pc' := 29) rfl (hb hby at_21) rfl (flt (by decide)).2.2.2 (by decide) (by decide) ?_
      show Steps p.tables e below (T9.setTop (mkF m 29 #[.val (.int p1), .val (.long q2), .second, .val (.long q3), .second, .val (.long q4), .second, .val (.long q5), .second, .val (.long q6), .second, .val (.int (1 : Int32)), .val (.ref b4), .unset, .unset, .unset] [])) _
      refine XS.iload X9.here hx rfl (hb hby at_29) rfl ?_
      show Steps p.tables e below (T9.setTop (mkF m 31 #[.val (.int p1), .val (.long q2), .second, .val (.long q3), .second, .val (.long q4), .second, .val (.long q5), .second, .val (.long q6), .second, .val (.int (1 : Int32)), .val (.ref b4), .unset, .unset, .unset] [(.int (1 : Int32))])) _
      refine XS.iconst X9.here hx rfl (hb hby at_31) ?_
      show Steps p.tables e below (T9.setTop (mkF m 32 #[.val (.int p1), .val (.long q2), .second, .val (.long q3), .second, .val (.long q4), .second, .val (.long q5), .second, .val (.long q6), .second, .val (.int (1 : Int32)), .val (.ref b4), .unset, .unset, .unset] [(.int (2 : Int32)), (.int (1 : Int32))])) _
      refine XS.icmpYes X9.here hx rfl (pc0 := 32) (pc' := 41) rfl (hb hby at_32) rfl (flt (by decide)).2.2.2 (by decide) (by decide) ?_
      show Steps p.tables e below (T9.setTop (mkF m 41 #[.val (.int p1), .val (.long q2), .second, .val (.long q3), .second, .val (.long q4), .second, .val (.long q5), .second, .val (.long q6), .second, .val (.int (1 : Int32)), .val (.ref b4), .unset, .unset, .unset] [])) _
      refine XS.iload X9.here hx rfl (hb hby at_41) rfl ?_
      show Steps p.tables e below (T9.setTop (mkF m 43 #[.val (.int p1), .val (.long q2), .second, .val (.long q3), .second, .val (.long q4), .second, .val (.long q5), .second, .val (.long q6), .second, .val (.int (1 : Int32)), .val (.ref b4), .unset, .unset, .unset] [(.int (1 : Int32))])) _
      refine XS.iconst X9.here hx rfl (hb hby at_43) ?_
      show Steps p.tables e below (T9.setTop (mkF m 44 #[.val (.int p1), .val (.long q2), .second, .val (.long q3), .second, .val (.long q4), .second, .val (.long q5), .second, .val (.long q6), .second, .val (.int (1 : Int32)), .val (.ref b4), .unset, .unset, .unset] [(.int (3 : Int32)), (.int (1 : Int32))])) _
      refine XS.icmpYes X9.here hx rfl (pc0 := 44) (pc' := 53) rfl (hb hby at_44) rfl (flt (by decide)).2.2.2 (by decide) (by decide) ?_
      show Steps p.tables e below (T9.setTop (mkF m 53 #[.val (.int p1), .val (.long q2), .second, .val (.long q3), .second, .val (.long q4), .second, .val (.long q5), .second, .val (.long q6), .second, .val (.int (1 : Int32)), .val (.ref b4), .unset, .unset, .unset] [])) _
      refine XS.iload X9.here hx rfl (hb hby at_53) rfl ?_
      show Steps p.tables e below (T9.setTop (mkF m 55 #[.val (.int p1), .val (.long q2), .second, .val (.long q3), .second, .val (.long q4), .second, .val (.long q5), .second, .val (.long q6), .second, .val (.int (1 : Int32)), .val (.ref b4), .unset, .unset, .unset] [(.int (1 : Int32))])) _
      refine XS.iconst X9.here hx rfl (hb hby at_55) ?_
      show Steps p.tables e below (T9.setTop (mkF m 56 #[.val (.int p1), .val (.long q2), .second, .val (.long q3), .second, .val (.long q4), .second, .val (.long q5), .second, .val (.long q6), .second, .val (.int (1 : Int32)), .val (.ref b4), .unset, .unset, .unset] [(.int (1 : Int32)), (.int (1 : Int32))])) _
      refine XS.icmpNo X9.here hx rfl (hb hby at_56) rfl (teq (by decide)).2 ?_
      show Steps p.tables e below (T9.setTop (mkF m 59 #[.val (.int p1), .val (.long q2), .second, .val (.long q3), .second, .val (.long q4), .second, .val (.long q5), .second, .val (.long q6), .second, .val (.int (1 : Int32)), .val (.ref b4), .unset, .unset, .unset] [])) _
      refine XS.lloadN X9.here hx rfl (hb hby at_59) rfl ?_
      show Steps p.tables e below (T9.setTop (mkF m 60 #[.val (.int p1), .val (.long q2), .second, .val (.long q3), .second, .val (.long q4), .second, .val (.long q5), .second, .val (.long q6), .second, .val (.int (1 : Int32)), .val (.ref b4), .unset, .unset, .unset] [(.long q2)])) _
      refine XS.lstore X9.here hx rfl (hb hby at_60) rfl (l' := #[.val (.int p1), .val (.long q2), .second, .val (.long q3), .second, .val (.long q4), .second, .val (.long q5), .second, .val (.long q6), .second, .val (.int (1 : Int32)), .val (.ref b4), .val (.long q2), .second, .unset]) rfl ?_
      show Steps p.tables e below (T9.setTop (mkF m 62 #[.val (.int p1), .val (.long q2), .second, .val (.long q3), .second, .val (.long q4), .second, .val (.long q5), .second, .val (.long q6), .second, .val (.int (1 : Int32)), .val (.ref b4), .val (.long q2), .second, .unset] [])) _
      refine XS.goto X9.here hx rfl (pc0 := 62) (pc' := 94) rfl (hb hby at_62) (by decide) (by decide) ?_
      show Steps p.tables e below (T9.setTop (mkF m 94 #[.val (.int p1), .val (.long q2), .second, .val (.long q3), .second, .val (.long q4), .second, .val (.long q5), .second, .val (.long q6), .second, .val (.int (1 : Int32)), .val (.ref b4), .val (.long q2), .second, .unset] [])) _
      exact k
    obtain ⟨T15, h15, X15, e15, E15, A15, D15, -, st15⟩ := newO X9 hx hZ hown (hw _ (List.mem_of_getElem? (i := 1) rfl)) (hw _ (List.mem_of_getElem? (i := 2) rfl)) (hw _ (List.mem_of_getElem? (i := 3) rfl)) e9 (g := (mkF m 94 #[.val (.int p1), .val (.long q2), .second, .val (.long q3), .second, .val (.long q4), .second, .val (.long q5), .second, .val (.long q6), .second, .val (.int (1 : Int32)), .val (.ref b4), .val (.long q2), .second, .unset] [])) rfl (hb hby at_94) (by decide) (by decide)
    obtain ⟨b15, g15⟩ : ∃ z, z = h9.size := ⟨_, rfl⟩
    rw [← g15] at A15 D15 st15
    have ne_b4_b15 : b4 ≠ b15 := Nat.ne_of_lt (Nat.lt_of_lt_of_le V9.lt (Nat.le_of_eq g15.symm))
    have g_b15 : n0 ≤ b15 := Nat.le_trans Z11 (Nat.le_of_eq g15.symm)
    have sz_b15 : h0.size ≤ b15 := Nat.le_trans KP12.1 (Nat.le_of_eq g15.symm)
    have f16 := V9.ext E15
    have Z17 : n0 ≤ h15.size := Nat.le_trans Z11 E15.1
    have KP18 : Keep h0 h15 [] := KP12.ext E15
    have K19 : ∀ t, Steps p.tables e below (T15.setTop (mkF m 97 #[.val (.int p1), .val (.long q2), .second, .val (.long q3), .second, .val (.long q4), .second, .val (.long q5), .second, .val (.long q6), .second, .val (.int (1 : Int32)), .val (.ref b4), .val (.long q2), .second, .unset] [(.ref b15)])) t → Steps p.tables e below G t := fun t k => K14 t (st15 t k)
    have f20 : Fld Z h15 b15 "com/example/conq/conq/model/Histogram$Read" "cumulative" "[J" .null := D15 (Or.inr (hw _ (List.mem_of_getElem? (i := 11) rfl))) (ty := (.array .long)) (by decide)
    have f21 : Fld Z h15 b15 "com/example/conq/conq/model/Histogram$Read" "sum" "J" (.long (0 : Int64)) := D15 (Or.inr (hw _ (List.mem_of_getElem? (i := 13) rfl))) (ty := .long) (by decide)
    have K22 : ∀ t, Steps p.tables e below (T15.setTop (mkF m 102 #[.val (.int p1), .val (.long q2), .second, .val (.long q3), .second, .val (.long q4), .second, .val (.long q5), .second, .val (.long q6), .second, .val (.int (1 : Int32)), .val (.ref b4), .val (.long q2), .second, .unset] [(.long q6), (.ref b4), (.ref b15), (.ref b15)])) t → Steps p.tables e below G t := by
      intro t k
      refine K19 t ?_
      show Steps p.tables e below (T15.setTop (mkF m 97 #[.val (.int p1), .val (.long q2), .second, .val (.long q3), .second, .val (.long q4), .second, .val (.long q5), .second, .val (.long q6), .second, .val (.int (1 : Int32)), .val (.ref b4), .val (.long q2), .second, .unset] [(.ref b15)])) _
      refine XS.dup X15.here hx rfl (hb hby at_97) rfl rfl ?_
      show Steps p.tables e below (T15.setTop (mkF m 98 #[.val (.int p1), .val (.long q2), .second, .val (.long q3), .second, .val (.long q4), .second, .val (.long q5), .second, .val (.long q6), .second, .val (.int (1 : Int32)), .val (.ref b4), .val (.long q2), .second, .unset] [(.ref b15), (.ref b15)])) _
      refine XS.aload X15.here hx rfl (hb hby at_98) rfl rfl ?_
      show Steps p.tables e below (T15.setTop (mkF m 100 #[.val (.int p1), .val (.long q2), .second, .val (.long q3), .second, .val (.long q4), .second, .val (.long q5), .second, .val (.long q6), .second, .val (.int (1 : Int32)), .val (.ref b4), .val (.long q2), .second, .unset] [(.ref b4), (.ref b15), (.ref b15)])) _
      refine XS.lload X15.here hx rfl (hb hby at_100) rfl ?_
      show Steps p.tables e below (T15.setTop (mkF m 102 #[.val (.int p1), .val (.long q2), .second, .val (.long q3), .second, .val (.long q4), .second, .val (.long q5), .second, .val (.long q6), .second, .val (.int (1 : Int32)), .val (.ref b4), .val (.long q2), .second, .unset] [(.long q6), (.ref b4), (.ref b15), (.ref b15)])) _
      exact k
    obtain ⟨_, _, ⟨T23, L23, k23, n23⟩, -, X23, ⟨Lc23, hQ23, l23, y23, z23⟩, st23⟩ := X15.specialBack hx (y := (⟨"com/example/conq/conq/model/Histogram$Read", "<init>", "([JJ)V"⟩ : MethodName)) rfl hown (mvT hZ (hw _ (List.mem_of_getElem? (i := 4) rfl))) (mvT hZ (hw _ (List.mem_of_getElem? (i := 5) rfl))) (mvT hZ (hw _ (List.mem_of_getElem? (i := 6) rfl))) (by decide) (backOf (W := 1) (rm1 l Z a0 hw [] b15 b4 q6 h15 n0 Z17 A15 f20 f21 g_b15) hZ (hw _ (List.mem_of_getElem? (i := 6) rfl)) (hw _ (List.mem_of_getElem? (i := 3) rfl)) (by decide) (by decide)) (g := (mkF m 102 #[.val (.int p1), .val (.long q2), .second, .val (.long q3), .second, .val (.long q4), .second, .val (.long q5), .second, .val (.long q6), .second, .val (.int (1 : Int32)), .val (.ref b4), .val (.long q2), .second, .unset] [(.long q6), (.ref b4), (.ref b15), (.ref b15)])) rfl (by rw [hml]; rfl) (Steps.refl _) (a := b15) (argsL := [(.ref b4), (.long q6)]) (rest := [(.ref b15)]) (lenOf pd_0 rfl) rfl (by show 2 * 0 + _ ≤ _; exact Nat.le_of_eq rfl) (hb hby at_102) (fun _ _ => ⟨rfl, e15, (by decide : 2 + 0 ≤ _), (by decide : 3 + 0 ≤ _)⟩)
    dsimp only [Pt.U, Pt.locs, Pt.cells, Pt.slots] at X23 l23 y23 z23 st23 hQ23
    subst l23 y23 z23
    obtain ⟨rfl, Nq23, K23, E23', Fc23⟩ := hQ23
    have N24 := Fr.app N13 Nq23
    have f25 := f16.keep K23 (ninS ne_b4_b15 nin0)
    have f26 := A15.keep K23
    have Z27 : n0 ≤ T23.heap.size := Nat.le_trans Z17 K23.1
    have KP28 : Keep h0 T23.heap [] := KP18.trans K23 (allS (Or.inr sz_b15) all0)
    have K29 : ∀ t, Steps p.tables e below (T23.setTop (mkF m 105 #[.val (.int p1), .val (.long q2), .second, .val (.long q3), .second, .val (.long q4), .second, .val (.long q5), .second, .val (.long q6), .second, .val (.int (1 : Int32)), .val (.ref b4), .val (.long q2), .second, .unset] [(.ref b15)])) t → Steps p.tables e below G t := fun t k => K22 t (st23.trans k)
    have K30 : ∀ t, Steps p.tables e below (T23.setTop (mkF m 109 #[.val (.int p1), .val (.long q2), .second, .val (.long q3), .second, .val (.long q4), .second, .val (.long q5), .second, .val (.long q6), .second, .val (.int (1 : Int32)), .val (.ref b4), .val (.long q2), .second, .val (.ref b15)] [(.ref b15)])) t → Steps p.tables e below G t := by
      intro t k
      refine K29 t ?_
      show Steps p.tables e below (T23.setTop (mkF m 105 #[.val (.int p1), .val (.long q2), .second, .val (.long q3), .second, .val (.long q4), .second, .val (.long q5), .second, .val (.long q6), .second, .val (.int (1 : Int32)), .val (.ref b4), .val (.long q2), .second, .unset] [(.ref b15)])) _
      refine XS.astore X23.here hx rfl (hb hby at_105) rfl rfl (l' := #[.val (.int p1), .val (.long q2), .second, .val (.long q3), .second, .val (.long q4), .second, .val (.long q5), .second, .val (.long q6), .second, .val (.int (1 : Int32)), .val (.ref b4), .val (.long q2), .second, .val (.ref b15)]) rfl ?_
      show Steps p.tables e below (T23.setTop (mkF m 107 #[.val (.int p1), .val (.long q2), .second, .val (.long q3), .second, .val (.long q4), .second, .val (.long q5), .second, .val (.long q6), .second, .val (.int (1 : Int32)), .val (.ref b4), .val (.long q2), .second, .val (.ref b15)] [])) _
      refine XS.aload X23.here hx rfl (hb hby at_107) rfl rfl ?_
      show Steps p.tables e below (T23.setTop (mkF m 109 #[.val (.int p1), .val (.long q2), .second, .val (.long q3), .second, .val (.long q4), .second, .val (.long q5), .second, .val (.long q6), .second, .val (.int (1 : Int32)), .val (.ref b4), .val (.long q2), .second, .val (.ref b15)] [(.ref b15)])) _
      exact k
    obtain ⟨cq31, kq31, q31a, q31b, q31c⟩ := isOf hZ rfl E23'
    obtain ⟨_, _, ⟨T31, L31, k31, n31⟩, -, X31, ⟨Lc31, hQ31, l31, y31, z31⟩, st31⟩ := X23.virtualBack hx (y := (⟨"com/example/conq/conq/model/Histogram$Read", "getCount", "()J"⟩ : MethodName)) (z := (⟨"com/example/conq/conq/model/Histogram$Read", "getCount", "()J"⟩ : MethodName)) hown (mvT hZ (hw _ (List.mem_of_getElem? (i := 14) rfl))) (mvT hZ (hw _ (List.mem_of_getElem? (i := 15) rfl))) (notFace_of_selects (args := #[]) (mvT hZ (hw _ (List.mem_of_getElem? (i := 17) rfl)))) (mvT hZ (hw _ (List.mem_of_getElem? (i := 17) rfl))) (mvT hZ (hw _ (List.mem_of_getElem? (i := 16) rfl))) (by decide) (backOf (W := 0) (rm3 l Z a0 hw [] b15 b4 k4 (1 : Int32) [(.long q2)] q2 T23.heap n0 Z27 Fc23 f25 ⟨by decide, by decide⟩ rfl) hZ (hw _ (List.mem_of_getElem? (i := 18) rfl)) (hw _ (List.mem_of_getElem? (i := 3) rfl)) (by decide) (by decide)) q31a q31c (g := (mkF m 109 #[.val (.int p1), .val (.long q2), .second, .val (.long q3), .second, .val (.long q4), .second, .val (.long q5), .second, .val (.long q6), .second, .val (.int (1 : Int32)), .val (.ref b4), .val (.long q2), .second, .val (.ref b15)] [(.ref b15)])) rfl (by rw [hml]; rfl) (Steps.refl _) (argsL := []) (rest := []) (lenOf pd_1 rfl) rfl (by show 2 * 0 + _ ≤ _; exact Nat.le_of_eq rfl) (hb hby at_109) (fun _ _ => ⟨rfl, rfl, (by decide : 2 + 0 ≤ _), (by decide : 3 + 0 ≤ _)⟩)
    dsimp only [Pt.U, Pt.locs, Pt.cells, Pt.slots] at X31 l31 y31 z31 st31 hQ31
    subst l31 y31 z31
    obtain ⟨rfl, Nq31, e31⟩ := hQ31
    have N32 := Fr.app N24 Nq31
    have K33 : ∀ t, Steps p.tables e below (T31.setTop (mkF m 112 #[.val (.int p1), .val (.long q2), .second, .val (.long q3), .second, .val (.long q4), .second, .val (.long q5), .second, .val (.long q6), .second, .val (.int (1 : Int32)), .val (.ref b4), .val (.long q2), .second, .val (.ref b15)] [(.long q2)])) t → Steps p.tables e below G t := fun t k => K30 t (st31.trans k)
    obtain ⟨fs, hr, hrun, hended, hW, hsame⟩ := X31.leave (v := some (.int (1 : Int32))) (fun h => by rw [Bd.returns] at h; cases h)
    have KF := K33
    rw [hG] at KF
    refine ⟨_, _, KF _ ?_, hrun, hended, _, _, rfl, ?_, ⟨_, rfl⟩, hW, hsame.mono (by decide) (by decide)⟩
    · show Steps p.tables e below (T31.setTop (mkF m 112 #[.val (.int p1), .val (.long q2), .second, .val (.long q3), .second, .val (.long q4), .second, .val (.long q5), .second, .val (.long q6), .second, .val (.int (1 : Int32)), .val (.ref b4), .val (.long q2), .second, .val (.ref b15)] [(.long q2)])) _
      refine XS.lload X31.here hx rfl (hb hby at_112) rfl ?_
      show Steps p.tables e below (T31.setTop (mkF m 114 #[.val (.int p1), .val (.long q2), .second, .val (.long q3), .second, .val (.long q4), .second, .val (.long q5), .second, .val (.long q6), .second, .val (.int (1 : Int32)), .val (.ref b4), .val (.long q2), .second, .val (.ref b15)] [(.long q2), (.long q2)])) _
      refine XS.lcmp X31.here hx rfl (hb hby at_114) rfl ?_
      show Steps p.tables e below (T31.setTop (mkF m 115 #[.val (.int p1), .val (.long q2), .second, .val (.long q3), .second, .val (.long q4), .second, .val (.long q5), .second, .val (.long q6), .second, .val (.int (1 : Int32)), .val (.ref b4), .val (.long q2), .second, .val (.ref b15)] [(.int (lcmpW q2 q2))])) _
      refine XS.ifNo X31.here hx rfl (hb hby at_115) rfl ((if0 _ _).trans (teq ((lw_eq q2 q2).mpr (rfl : q2 = q2))).2) ?_
      show Steps p.tables e below (T31.setTop (mkF m 118 #[.val (.int p1), .val (.long q2), .second, .val (.long q3), .second, .val (.long q4), .second, .val (.long q5), .second, .val (.long q6), .second, .val (.int (1 : Int32)), .val (.ref b4), .val (.long q2), .second, .val (.ref b15)] [])) _
      refine XS.iconst X31.here hx rfl (hb hby at_118) ?_
      show Steps p.tables e below (T31.setTop (mkF m 119 #[.val (.int p1), .val (.long q2), .second, .val (.long q3), .second, .val (.long q4), .second, .val (.long q5), .second, .val (.long q6), .second, .val (.int (1 : Int32)), .val (.ref b4), .val (.long q2), .second, .val (.ref b15)] [(.int (1 : Int32))])) _
      refine XS.goto X31.here hx rfl (pc0 := 119) (pc' := 123) rfl (hb hby at_119) (by decide) (by decide) ?_
      show Steps p.tables e below (T31.setTop (mkF m 123 #[.val (.int p1), .val (.long q2), .second, .val (.long q3), .second, .val (.long q4), .second, .val (.long q5), .second, .val (.long q6), .second, .val (.int (1 : Int32)), .val (.ref b4), .val (.long q2), .second, .val (.ref b15)] [(.int (1 : Int32))])) _
      exact retN X31 hx (t := .boolean) Bd.returns (by simp) (hb hby at_123) hr
    · show Q0 n0 _ T31.heap _
      rw [e31]
      exact ⟨rfl, N32⟩
  · have K34 : ∀ t, Steps p.tables e below (s₁.setTop (mkF m 7 #[.val (.int p1), .val (.long q2), .second, .val (.long q3), .second, .val (.long q4), .second, .val (.long q5), .second, .val (.long q6), .second, .val (.int (2 : Int32)), .unset, .unset, .unset, .unset] [])) t → Steps p.tables e below G t := by have q := K1; rw [hN] at q; exact q
    have K35 : ∀ t, Steps p.tables e below (s₁.setTop (mkF m 9 #[.val (.int p1), .val (.long q2), .second, .val (.long q3), .second, .val (.long q4), .second, .val (.long q5), .second, .val (.long q6), .second, .val (.int (2 : Int32)), .unset, .unset, .unset, .unset] [(.int (2 : Int32))])) t → Steps p.tables e below G t := by
      intro t k
      refine K34 t ?_
      show Steps p.tables e below (s₁.setTop (mkF m 7 #[.val (.int p1), .val (.long q2), .second, .val (.long q3), .second, .val (.long q4), .second, .val (.long q5), .second, .val (.long q6), .second, .val (.int (2 : Int32)), .unset, .unset, .unset, .unset] [])) _
      refine XS.iload X0.here hx rfl (hb hby at_7) rfl ?_
      show Steps p.tables e below (s₁.setTop (mkF m 9 #[.val (.int p1), .val (.long q2), .second, .val (.long q3), .second, .val (.long q4), .second, .val (.long q5), .second, .val (.long q6), .second, .val (.int (2 : Int32)), .unset, .unset, .unset, .unset] [(.int (2 : Int32))])) _
      exact k
    obtain ⟨T36, h36, k36, X36, e36, E36, A36, st36⟩ := newP X0 hx hZ (hw _ (List.mem_of_getElem? (i := 0) rfl)) e0 (g := (mkF m 9 #[.val (.int p1), .val (.long q2), .second, .val (.long q3), .second, .val (.long q4), .second, .val (.long q5), .second, .val (.long q6), .second, .val (.int (2 : Int32)), .unset, .unset, .unset, .unset] [(.int (2 : Int32))])) rfl (hb hby at_9) rfl (by decide) (cap := 2) (by decide) (by decide) (by decide) (by decide)
    obtain ⟨b36, g36⟩ : ∃ z, z = h0.size := ⟨_, rfl⟩
    rw [← g36] at A36 st36
    have g_b36 : n0 ≤ b36 := Nat.le_trans Z0 (Nat.le_of_eq g36.symm)
    have sz_b36 : h0.size ≤ b36 := Nat.le_trans KP0.1 (Nat.le_of_eq g36.symm)
    have Z37 : n0 ≤ h36.size := Nat.le_trans Z0 E36.1
    have KP38 : Keep h0 h36 [] := KP0.ext E36
    have K39 : ∀ t, Steps p.tables e below (T36.setTop (mkF m 11 #[.val (.int p1), .val (.long q2), .second, .val (.long q3), .second, .val (.long q4), .second, .val (.long q5), .second, .val (.long q6), .second, .val (.int (2 : Int32)), .unset, .unset, .unset, .unset] [(.ref b36)])) t → Steps p.tables e below G t := fun t k => K35 t (st36 t k)
    have V36 : Arv Z h36 b36 k36 .long (2 : Int32) [(.long (0 : Int64)), (.long (0 : Int64))] (.long (0 : Int64)) := (Arv.new A36 (by decide)).pad (pad_rep [] (.long (0 : Int64)) 2)
    have K40 : ∀ t, Steps p.tables e below (T36.setTop (mkF m 17 #[.val (.int p1), .val (.long q2), .second, .val (.long q3), .second, .val (.long q4), .second, .val (.long q5), .second, .val (.long q6), .second, .val (.int (2 : Int32)), .val (.ref b36), .unset, .unset, .unset] [(.long q2), (.int (0 : Int32)), (.ref b36)])) t → Steps p.tables e below G t := by
      intro t k
      refine K39 t ?_
      show Steps p.tables e below (T36.setTop (mkF m 11 #[.val (.int p1), .val (.long q2), .second, .val (.long q3), .second, .val (.long q4), .second, .val (.long q5), .second, .val (.long q6), .second, .val (.int (2 : Int32)), .unset, .unset, .unset, .unset] [(.ref b36)])) _
      refine XS.astore X36.here hx rfl (hb hby at_11) rfl rfl (l' := #[.val (.int p1), .val (.long q2), .second, .val (.long q3), .second, .val (.long q4), .second, .val (.long q5), .second, .val (.long q6), .second, .val (.int (2 : Int32)), .val (.ref b36), .unset, .unset, .unset]) rfl ?_
      show Steps p.tables e below (T36.setTop (mkF m 13 #[.val (.int p1), .val (.long q2), .second, .val (.long q3), .second, .val (.long q4), .second, .val (.long q5), .second, .val (.long q6), .second, .val (.int (2 : Int32)), .val (.ref b36), .unset, .unset, .unset] [])) _
      refine XS.aload X36.here hx rfl (hb hby at_13) rfl rfl ?_
      show Steps p.tables e below (T36.setTop (mkF m 15 #[.val (.int p1), .val (.long q2), .second, .val (.long q3), .second, .val (.long q4), .second, .val (.long q5), .second, .val (.long q6), .second, .val (.int (2 : Int32)), .val (.ref b36), .unset, .unset, .unset] [(.ref b36)])) _
      refine XS.iconst X36.here hx rfl (hb hby at_15) ?_
      show Steps p.tables e below (T36.setTop (mkF m 16 #[.val (.int p1), .val (.long q2), .second, .val (.long q3), .second, .val (.long q4), .second, .val (.long q5), .second, .val (.long q6), .second, .val (.int (2 : Int32)), .val (.ref b36), .unset, .unset, .unset] [(.int (0 : Int32)), (.ref b36)])) _
      refine XS.lloadN X36.here hx rfl (hb hby at_16) rfl ?_
      show Steps p.tables e below (T36.setTop (mkF m 17 #[.val (.int p1), .val (.long q2), .second, .val (.long q3), .second, .val (.long q4), .second, .val (.long q5), .second, .val (.long q6), .second, .val (.int (2 : Int32)), .val (.ref b36), .unset, .unset, .unset] [(.long q2), (.int (0 : Int32)), (.ref b36)])) _
      exact k
    obtain ⟨cl41, Ar41, q41, S41, M41, Ha41, Ga41⟩ := id V36
    have hin41 : ¬ ((0 : Int32) < 0 ∨ cl41.slots.size ≤ ((0 : Int32)).toNatClampNeg) := inb_of S41 ⟨by decide, by decide⟩
    obtain ⟨T41, h41, X41, e41, W41, st41⟩ := stJ X36 hx hZ e36 Ar41 (j := (0 : Int32)) hin41 (g := (mkF m 17 #[.val (.int p1), .val (.long q2), .second, .val (.long q3), .second, .val (.long q4), .second, .val (.long q5), .second, .val (.long q6), .second, .val (.int (2 : Int32)), .val (.ref b36), .unset, .unset, .unset] [(.long q2), (.int (0 : Int32)), (.ref b36)])) rfl rfl (hb hby at_17)
    have V41 : Arv Z h41 b36 k36 .long (2 : Int32) [(.long q2), (.long (0 : Int64))] (.long (0 : Int64)) := Arv.set Ar41 q41 S41 M41 Ha41 Ga41 rfl W41 0 rfl (Nat.le_of_ble_eq_true rfl)
    have K42 : ∀ t, Steps p.tables e below (T41.setTop (mkF m 18 #[.val (.int p1), .val (.long q2), .second, .val (.long q3), .second, .val (.long q4), .second, .val (.long q5), .second, .val (.long q6), .second, .val (.int (2 : Int32)), .val (.ref b36), .unset, .unset, .unset] [])) t → Steps p.tables e below G t := fun t k => K40 t (st41 t k)
    have Z43 : n0 ≤ h41.size := Nat.le_trans Z37 (Keep.of_wr W41).1
    have KP44 : Keep h0 h41 [] := KP38.wr W41 (Or.inr sz_b36)
    have N45 := Fr.snoc X41 N0 g_b36
    have K46 : ∀ t, Steps p.tables e below (T41.setTop (mkF m 28 #[.val (.int p1), .val (.long q2), .second, .val (.long q3), .second, .val (.long q4), .second, .val (.long q5), .second, .val (.long q6), .second, .val (.int (2 : Int32)), .val (.ref b36), .unset, .unset, .unset] [(.long q3), (.int (1 : Int32)), (.ref b36)])) t → Steps p.tables e below G t := by
      intro t k
      refine K42 t ?_
      show Steps p.tables e below (T41.setTop (mkF m 18 #[.val (.int p1), .val (.long q2), .second, .val (.long q3), .second, .val (.long q4), .second, .val (.long q5), .second, .val (.long q6), .second, .val (.int (2 : Int32)), .val (.ref b36), .unset, .unset, .unset] [])) _
      refine XS.iload X41.here hx rfl (hb hby at_18) rfl ?_
      show Steps p.tables e below (T41.setTop (mkF m 20 #[.val (.int p1), .val (.long q2), .second, .val (.long q3), .second, .val (.long q4), .second, .val (.long q5), .second, .val (.long q6), .second, .val (.int (2 : Int32)), .val (.ref b36), .unset, .unset, .unset] [(.int (2 : Int32))])) _
      refine XS.iconst X41.here hx rfl (hb hby at_20) ?_
      show Steps p.tables e below (T41.setTop (mkF m 21 #[.val (.int p1), .val (.long q2), .second, .val (.long q3), .second, .val (.long q4), .second, .val (.long q5), .second, .val (.long q6), .second, .val (.int (2 : Int32)), .val (.ref b36), .unset, .unset, .unset] [(.int (1 : Int32)), (.int (2 : Int32))])) _
      refine XS.icmpNo X41.here hx rfl (hb hby at_21) rfl (tlt (by decide)).2.2.2 ?_
      show Steps p.tables e below (T41.setTop (mkF m 24 #[.val (.int p1), .val (.long q2), .second, .val (.long q3), .second, .val (.long q4), .second, .val (.long q5), .second, .val (.long q6), .second, .val (.int (2 : Int32)), .val (.ref b36), .unset, .unset, .unset] [])) _
      refine XS.aload X41.here hx rfl (hb hby at_24) rfl rfl ?_
      show Steps p.tables e below (T41.setTop (mkF m 26 #[.val (.int p1), .val (.long q2), .second, .val (.long q3), .second, .val (.long q4), .second, .val (.long q5), .second, .val (.long q6), .second, .val (.int (2 : Int32)), .val (.ref b36), .unset, .unset, .unset] [(.ref b36)])) _
      refine XS.iconst X41.here hx rfl (hb hby at_26) ?_
      show Steps p.tables e below (T41.setTop (mkF m 27 #[.val (.int p1), .val (.long q2), .second, .val (.long q3), .second, .val (.long q4), .second, .val (.long q5), .second, .val (.long q6), .second, .val (.int (2 : Int32)), .val (.ref b36), .unset, .unset, .unset] [(.int (1 : Int32)), (.ref b36)])) _
      refine XS.lloadN X41.here hx rfl (hb hby at_27) rfl ?_
      show Steps p.tables e below (T41.setTop (mkF m 28 #[.val (.int p1), .val (.long q2), .second, .val (.long q3), .second, .val (.long q4), .second, .val (.long q5), .second, .val (.long q6), .second, .val (.int (2 : Int32)), .val (.ref b36), .unset, .unset, .unset] [(.long q3), (.int (1 : Int32)), (.ref b36)])) _
      exact k
    obtain ⟨cl47, Ar47, q47, S47, M47, Ha47, Ga47⟩ := id V41
    have hin47 : ¬ ((1 : Int32) < 0 ∨ cl47.slots.size ≤ ((1 : Int32)).toNatClampNeg) := inb_of S47 ⟨by decide, by decide⟩
    obtain ⟨T47, h47, X47, e47, W47, st47⟩ := stJ X41 hx hZ e41 Ar47 (j := (1 : Int32)) hin47 (g := (mkF m 28 #[.val (.int p1), .val (.long q2), .second, .val (.long q3), .second, .val (.long q4), .second, .val (.long q5), .second, .val (.long q6), .second, .val (.int (2 : Int32)), .val (.ref b36), .unset, .unset, .unset] [(.long q3), (.int (1 : Int32)), (.ref b36)])) rfl rfl (hb hby at_28)
    have V47 : Arv Z h47 b36 k36 .long (2 : Int32) [(.long q2), (.long q3)] (.long (0 : Int64)) := Arv.set Ar47 q47 S47 M47 Ha47 Ga47 rfl W47 1 rfl (Nat.le_of_ble_eq_true rfl)
    have K48 : ∀ t, Steps p.tables e below (T47.setTop (mkF m 29 #[.val (.int p1), .val (.long q2), .second, .val (.long q3), .second, .val (.long q4), .second, .val (.long q5), .second, .val (.long q6), .second, .val (.int (2 : Int32)), .val (.ref b36), .unset, .unset, .unset] [])) t → Steps p.tables e below G t := fun t k => K46 t (st47 t k)
    have Z49 : n0 ≤ h47.size := Nat.le_trans Z43 (Keep.of_wr W47).1
    have KP50 : Keep h0 h47 [] := KP44.wr W47 (Or.inr sz_b36)
    have N51 := Fr.snoc X47 N45 g_b36
    have K52 : ∀ t, Steps p.tables e below (T47.setTop (mkF m 94 #[.val (.int p1), .val (.long q2), .second, .val (.long q3), .second, .val (.long q4), .second, .val (.long q5), .second, .val (.long q6), .second, .val (.int (2 : Int32)), .val (.ref b36), .val (.long q3), .second, .unset] [])) t → Steps p.tables e below G t := by
      intro t k
      refine K48 t ?_
      show Steps p.tables e below (T47.setTop (mkF m 29 #[.val (.int p1), .val (.long q2), .second, .val (.long q3), .second, .val (.long q4), .second, .val (.long q5), .second, .val (.long q6), .second, .val (.int (2 : Int32)), .val (.ref b36), .unset, .unset, .unset] [])) _
      refine XS.iload X47.here hx rfl (hb hby at_29) rfl ?_
      show Steps p.tables e below (T47.setTop (mkF m 31 #[.val (.int p1), .val (.long q2), .second, .val (.long q3), .second, .val (.long q4), .second, .val (.long q5), .second, .val (.long q6), .second, .val (.int (2 : Int32)), .val (.ref b36), .unset, .unset, .unset] [(.int (2 : Int32))])) _
      refine XS.iconst X47.here hx rfl (hb hby at_31) ?_
      show Steps p.tables e below (T47.setTop (mkF m 32 #[.val (.int p1), .val (.long q2), .second, .val (.long q3), .second, .val (.long q4), .second, .val (.long q5), .second, .val (.long q6), .second, .val (.int (2 : Int32)), .val (.ref b36), .unset, .unset, .unset] [(.int (2 : Int32)), (.int (2 : Int32))])) _
      refine XS.icmpYes X47.here hx rfl (pc0 := 32) (pc' := 41) rfl (hb hby at_32) rfl (flt (by decide)).2.2.2 (by decide) (by decide) ?_
      show Steps p.tables e below (T47.setTop (mkF m 41 #[.val (.int p1), .val (.long q2), .second, .val (.long q3), .second, .val (.long q4), .second, .val (.long q5), .second, .val (.long q6), .second, .val (.int (2 : Int32)), .val (.ref b36), .unset, .unset, .unset] [])) _
      refine XS.iload X47.here hx rfl (hb hby at_41) rfl ?_
      show Steps p.tables e below (T47.setTop (mkF m 43 #[.val (.int p1), .val (.long q2), .second, .val (.long q3), .second, .val (.long q4), .second, .val (.long q5), .second, .val (.long q6), .second, .val (.int (2 : Int32)), .val (.ref b36), .unset, .unset, .unset] [(.int (2 : Int32))])) _
      refine XS.iconst X47.here hx rfl (hb hby at_43) ?_
      show Steps p.tables e below (T47.setTop (mkF m 44 #[.val (.int p1), .val (.long q2), .second, .val (.long q3), .second, .val (.long q4), .second, .val (.long q5), .second, .val (.long q6), .second, .val (.int (2 : Int32)), .val (.ref b36), .unset, .unset, .unset] [(.int (3 : Int32)), (.int (2 : Int32))])) _
      refine XS.icmpYes X47.here hx rfl (pc0 := 44) (pc' := 53) rfl (hb hby at_44) rfl (flt (by decide)).2.2.2 (by decide) (by decide) ?_
      show Steps p.tables e below (T47.setTop (mkF m 53 #[.val (.int p1), .val (.long q2), .second, .val (.long q3), .second, .val (.long q4), .second, .val (.long q5), .second, .val (.long q6), .second, .val (.int (2 : Int32)), .val (.ref b36), .unset, .unset, .unset] [])) _
      refine XS.iload X47.here hx rfl (hb hby at_53) rfl ?_
      show Steps p.tables e below (T47.setTop (mkF m 55 #[.val (.int p1), .val (.long q2), .second, .val (.long q3), .second, .val (.long q4), .second, .val (.long q5), .second, .val (.long q6), .second, .val (.int (2 : Int32)), .val (.ref b36), .unset, .unset, .unset] [(.int (2 : Int32))])) _
      refine XS.iconst X47.here hx rfl (hb hby at_55) ?_
      show Steps p.tables e below (T47.setTop (mkF m 56 #[.val (.int p1), .val (.long q2), .second, .val (.long q3), .second, .val (.long q4), .second, .val (.long q5), .second, .val (.long q6), .second, .val (.int (2 : Int32)), .val (.ref b36), .unset, .unset, .unset] [(.int (1 : Int32)), (.int (2 : Int32))])) _
      refine XS.icmpYes X47.here hx rfl (pc0 := 56) (pc' := 65) rfl (hb hby at_56) rfl (feq (by decide)).2 (by decide) (by decide) ?_
      show Steps p.tables e below (T47.setTop (mkF m 65 #[.val (.int p1), .val (.long q2), .second, .val (.long q3), .second, .val (.long q4), .second, .val (.long q5), .second, .val (.long q6), .second, .val (.int (2 : Int32)), .val (.ref b36), .unset, .unset, .unset] [])) _
      refine XS.iload X47.here hx rfl (hb hby at_65) rfl ?_
      show Steps p.tables e below (T47.setTop (mkF m 67 #[.val (.int p1), .val (.long q2), .second, .val (.long q3), .second, .val (.long q4), .second, .val (.long q5), .second, .val (.long q6), .second, .val (.int (2 : Int32)), .val (.ref b36), .unset, .unset, .unset] [(.int (2 : Int32))])) _
      refine XS.iconst X47.here hx rfl (hb hby at_67) ?_
      show Steps p.tables e below (T47.setTop (mkF m 68 #[.val (.int p1), .val (.long q2), .second, .val (.long q3), .second, .val (.long q4), .second, .val (.long q5), .second, .val (.long q6), .second, .val (.int (2 : Int32)), .val (.ref b36), .unset, .unset, .unset] [(.int (2 : Int32)), (.int (2 : Int32))])) _
      refine XS.icmpNo X47.here hx rfl (hb hby at_68) rfl (teq (by decide)).2 ?_
      show Steps p.tables e below (T47.setTop (mkF m 71 #[.val (.int p1), .val (.long q2), .second, .val (.long q3), .second, .val (.long q4), .second, .val (.long q5), .second, .val (.long q6), .second, .val (.int (2 : Int32)), .val (.ref b36), .unset, .unset, .unset] [])) _
      refine XS.lloadN X47.here hx rfl (hb hby at_71) rfl ?_
      show Steps p.tables e below (T47.setTop (mkF m 72 #[.val (.int p1), .val (.long q2), .second, .val (.long q3), .second, .val (.long q4), .second, .val (.long q5), .second, .val (.long q6), .second, .val (.int (2 : Int32)), .val (.ref b36), .unset, .unset, .unset] [(.long q3)])) _
      refine XS.lstore X47.here hx rfl (hb hby at_72) rfl (l' := #[.val (.int p1), .val (.long q2), .second, .val (.long q3), .second, .val (.long q4), .second, .val (.long q5), .second, .val (.long q6), .second, .val (.int (2 : Int32)), .val (.ref b36), .val (.long q3), .second, .unset]) rfl ?_
      show Steps p.tables e below (T47.setTop (mkF m 74 #[.val (.int p1), .val (.long q2), .second, .val (.long q3), .second, .val (.long q4), .second, .val (.long q5), .second, .val (.long q6), .second, .val (.int (2 : Int32)), .val (.ref b36), .val (.long q3), .second, .unset] [])) _
      refine XS.goto X47.here hx rfl (pc0 := 74) (pc' := 94) rfl (hb hby at_74) (by decide) (by decide) ?_
      show Steps p.tables e below (T47.setTop (mkF m 94 #[.val (.int p1), .val (.long q2), .second, .val (.long q3), .second, .val (.long q4), .second, .val (.long q5), .second, .val (.long q6), .second, .val (.int (2 : Int32)), .val (.ref b36), .val (.long q3), .second, .unset] [])) _
      exact k
    obtain ⟨T53, h53, X53, e53, E53, A53, D53, -, st53⟩ := newO X47 hx hZ hown (hw _ (List.mem_of_getElem? (i := 1) rfl)) (hw _ (List.mem_of_getElem? (i := 2) rfl)) (hw _ (List.mem_of_getElem? (i := 3) rfl)) e47 (g := (mkF m 94 #[.val (.int p1), .val (.long q2), .second, .val (.long q3), .second, .val (.long q4), .second, .val (.long q5), .second, .val (.long q6), .second, .val (.int (2 : Int32)), .val (.ref b36), .val (.long q3), .second, .unset] [])) rfl (hb hby at_94) (by decide) (by decide)
    obtain ⟨b53, g53⟩ : ∃ z, z = h47.size := ⟨_, rfl⟩
    rw [← g53] at A53 D53 st53
    have ne_b36_b53 : b36 ≠ b53 := Nat.ne_of_lt (Nat.lt_of_lt_of_le V47.lt (Nat.le_of_eq g53.symm))
    have g_b53 : n0 ≤ b53 := Nat.le_trans Z49 (Nat.le_of_eq g53.symm)
    have sz_b53 : h0.size ≤ b53 := Nat.le_trans KP50.1 (Nat.le_of_eq g53.symm)
    have f54 := V47.ext E53
    have Z55 : n0 ≤ h53.size := Nat.le_trans Z49 E53.1
    have KP56 : Keep h0 h53 [] := KP50.ext E53
    have K57 : ∀ t, Steps p.tables e below (T53.setTop (mkF m 97 #[.val (.int p1), .val (.long q2), .second, .val (.long q3), .second, .val (.long q4), .second, .val (.long q5), .second, .val (.long q6), .second, .val (.int (2 : Int32)), .val (.ref b36), .val (.long q3), .second, .unset] [(.ref b53)])) t → Steps p.tables e below G t := fun t k => K52 t (st53 t k)
    have f58 : Fld Z h53 b53 "com/example/conq/conq/model/Histogram$Read" "cumulative" "[J" .null := D53 (Or.inr (hw _ (List.mem_of_getElem? (i := 11) rfl))) (ty := (.array .long)) (by decide)
    have f59 : Fld Z h53 b53 "com/example/conq/conq/model/Histogram$Read" "sum" "J" (.long (0 : Int64)) := D53 (Or.inr (hw _ (List.mem_of_getElem? (i := 13) rfl))) (ty := .long) (by decide)
    have K60 : ∀ t, Steps p.tables e below (T53.setTop (mkF m 102 #[.val (.int p1), .val (.long q2), .second, .val (.long q3), .second, .val (.long q4), .second, .val (.long q5), .second, .val (.long q6), .second, .val (.int (2 : Int32)), .val (.ref b36), .val (.long q3), .second, .unset] [(.long q6), (.ref b36), (.ref b53), (.ref b53)])) t → Steps p.tables e below G t := by
      intro t k
      refine K57 t ?_
      show Steps p.tables e below (T53.setTop (mkF m 97 #[.val (.int p1), .val (.long q2), .second, .val (.long q3), .second, .val (.long q4), .second, .val (.long q5), .second, .val (.long q6), .second, .val (.int (2 : Int32)), .val (.ref b36), .val (.long q3), .second, .unset] [(.ref b53)])) _
      refine XS.dup X53.here hx rfl (hb hby at_97) rfl rfl ?_
      show Steps p.tables e below (T53.setTop (mkF m 98 #[.val (.int p1), .val (.long q2), .second, .val (.long q3), .second, .val (.long q4), .second, .val (.long q5), .second, .val (.long q6), .second, .val (.int (2 : Int32)), .val (.ref b36), .val (.long q3), .second, .unset] [(.ref b53), (.ref b53)])) _
      refine XS.aload X53.here hx rfl (hb hby at_98) rfl rfl ?_
      show Steps p.tables e below (T53.setTop (mkF m 100 #[.val (.int p1), .val (.long q2), .second, .val (.long q3), .second, .val (.long q4), .second, .val (.long q5), .second, .val (.long q6), .second, .val (.int (2 : Int32)), .val (.ref b36), .val (.long q3), .second, .unset] [(.ref b36), (.ref b53), (.ref b53)])) _
      refine XS.lload X53.here hx rfl (hb hby at_100) rfl ?_
      show Steps p.tables e below (T53.setTop (mkF m 102 #[.val (.int p1), .val (.long q2), .second, .val (.long q3), .second, .val (.long q4), .second, .val (.long q5), .second, .val (.long q6), .second, .val (.int (2 : Int32)), .val (.ref b36), .val (.long q3), .second, .unset] [(.long q6), (.ref b36), (.ref b53), (.ref b53)])) _
      exact k
    obtain ⟨_, _, ⟨T61, L61, k61, n61⟩, -, X61, ⟨Lc61, hQ61, l61, y61, z61⟩, st61⟩ := X53.specialBack hx (y := (⟨"com/example/conq/conq/model/Histogram$Read", "<init>", "([JJ)V"⟩ : MethodName)) rfl hown (mvT hZ (hw _ (List.mem_of_getElem? (i := 4) rfl))) (mvT hZ (hw _ (List.mem_of_getElem? (i := 5) rfl))) (mvT hZ (hw _ (List.mem_of_getElem? (i := 6) rfl))) (by decide) (backOf (W := 1) (rm1 l Z a0 hw [] b53 b36 q6 h53 n0 Z55 A53 f58 f59 g_b53) hZ (hw _ (List.mem_of_getElem? (i := 6) rfl)) (hw _ (List.mem_of_getElem? (i := 3) rfl)) (by decide) (by decide)) (g := (mkF m 102 #[.val (.int p1), .val (.long q2), .second, .val (.long q3), .second, .val (.long q4), .second, .val (.long q5), .second, .val (.long q6), .second, .val (.int (2 : Int32)), .val (.ref b36), .val (.long q3), .second, .unset] [(.long q6), (.ref b36), (.ref b53), (.ref b53)])) rfl (by rw [hml]; rfl) (Steps.refl _) (a := b53) (argsL := [(.ref b36), (.long q6)]) (rest := [(.ref b53)]) (lenOf pd_0 rfl) rfl (by show 2 * 0 + _ ≤ _; exact Nat.le_of_eq rfl) (hb hby at_102) (fun _ _ => ⟨rfl, e53, (by decide : 2 + 0 ≤ _), (by decide : 4 + 0 ≤ _)⟩)
    dsimp only [Pt.U, Pt.locs, Pt.cells, Pt.slots] at X61 l61 y61 z61 st61 hQ61
    subst l61 y61 z61
    obtain ⟨rfl, Nq61, K61, E61', Fc61⟩ := hQ61
    have N62 := Fr.app N51 Nq61
    have f63 := f54.keep K61 (ninS ne_b36_b53 nin0)
    have f64 := A53.keep K61
    have Z65 : n0 ≤ T61.heap.size := Nat.le_trans Z55 K61.1
    have KP66 : Keep h0 T61.heap [] := KP56.trans K61 (allS (Or.inr sz_b53) all0)
    have K67 : ∀ t, Steps p.tables e below (T61.setTop (mkF m 105 #[.val (.int p1), .val (.long q2), .second, .val (.long q3), .second, .val (.long q4), .second, .val (.long q5), .second, .val (.long q6), .second, .val (.int (2 : Int32)), .val (.ref b36), .val (.long q3), .second, .unset] [(.ref b53)])) t → Steps p.tables e below G t := fun t k => K60 t (st61.trans k)
    have K68 : ∀ t, Steps p.tables e below (T61.setTop (mkF m 109 #[.val (.int p1), .val (.long q2), .second, .val (.long q3), .second, .val (.long q4), .second, .val (.long q5), .second, .val (.long q6), .second, .val (.int (2 : Int32)), .val (.ref b36), .val (.long q3), .second, .val (.ref b53)] [(.ref b53)])) t → Steps p.tables e below G t := by
      intro t k
      refine K67 t ?_
      show Steps p.tables e below (T61.setTop (mkF m 105 #[.val (.int p1), .val (.long q2), .second, .val (.long q3), .second, .val (.long q4), .second, .val (.long q5), .second, .val (.long q6), .second, .val (.int (2 : Int32)), .val (.ref b36), .val (.long q3), .second, .unset] [(.ref b53)])) _
      refine XS.astore X61.here hx rfl (hb hby at_105) rfl rfl (l' := #[.val (.int p1), .val (.long q2), .second, .val (.long q3), .second, .val (.long q4), .second, .val (.long q5), .second, .val (.long q6), .second, .val (.int (2 : Int32)), .val (.ref b36), .val (.long q3), .second, .val (.ref b53)]) rfl ?_
      show Steps p.tables e below (T61.setTop (mkF m 107 #[.val (.int p1), .val (.long q2), .second, .val (.long q3), .second, .val (.long q4), .second, .val (.long q5), .second, .val (.long q6), .second, .val (.int (2 : Int32)), .val (.ref b36), .val (.long q3), .second, .val (.ref b53)] [])) _
      refine XS.aload X61.here hx rfl (hb hby at_107) rfl rfl ?_
      show Steps p.tables e below (T61.setTop (mkF m 109 #[.val (.int p1), .val (.long q2), .second, .val (.long q3), .second, .val (.long q4), .second, .val (.long q5), .second, .val (.long q6), .second, .val (.int (2 : Int32)), .val (.ref b36), .val (.long q3), .second, .val (.ref b53)] [(.ref b53)])) _
      exact k
    obtain ⟨cq69, kq69, q69a, q69b, q69c⟩ := isOf hZ rfl E61'
    obtain ⟨_, _, ⟨T69, L69, k69, n69⟩, -, X69, ⟨Lc69, hQ69, l69, y69, z69⟩, st69⟩ := X61.virtualBack hx (y := (⟨"com/example/conq/conq/model/Histogram$Read", "getCount", "()J"⟩ : MethodName)) (z := (⟨"com/example/conq/conq/model/Histogram$Read", "getCount", "()J"⟩ : MethodName)) hown (mvT hZ (hw _ (List.mem_of_getElem? (i := 14) rfl))) (mvT hZ (hw _ (List.mem_of_getElem? (i := 15) rfl))) (notFace_of_selects (args := #[]) (mvT hZ (hw _ (List.mem_of_getElem? (i := 17) rfl)))) (mvT hZ (hw _ (List.mem_of_getElem? (i := 17) rfl))) (mvT hZ (hw _ (List.mem_of_getElem? (i := 16) rfl))) (by decide) (backOf (W := 0) (rm3 l Z a0 hw [] b53 b36 k36 (2 : Int32) [(.long q2), (.long q3)] q3 T61.heap n0 Z65 Fc61 f63 ⟨by decide, by decide⟩ rfl) hZ (hw _ (List.mem_of_getElem? (i := 18) rfl)) (hw _ (List.mem_of_getElem? (i := 3) rfl)) (by decide) (by decide)) q69a q69c (g := (mkF m 109 #[.val (.int p1), .val (.long q2), .second, .val (.long q3), .second, .val (.long q4), .second, .val (.long q5), .second, .val (.long q6), .second, .val (.int (2 : Int32)), .val (.ref b36), .val (.long q3), .second, .val (.ref b53)] [(.ref b53)])) rfl (by rw [hml]; rfl) (Steps.refl _) (argsL := []) (rest := []) (lenOf pd_1 rfl) rfl (by show 2 * 0 + _ ≤ _; exact Nat.le_of_eq rfl) (hb hby at_109) (fun _ _ => ⟨rfl, rfl, (by decide : 2 + 0 ≤ _), (by decide : 4 + 0 ≤ _)⟩)
    dsimp only [Pt.U, Pt.locs, Pt.cells, Pt.slots] at X69 l69 y69 z69 st69 hQ69
    subst l69 y69 z69
    obtain ⟨rfl, Nq69, e69⟩ := hQ69
    have N70 := Fr.app N62 Nq69
    have K71 : ∀ t, Steps p.tables e below (T69.setTop (mkF m 112 #[.val (.int p1), .val (.long q2), .second, .val (.long q3), .second, .val (.long q4), .second, .val (.long q5), .second, .val (.long q6), .second, .val (.int (2 : Int32)), .val (.ref b36), .val (.long q3), .second, .val (.ref b53)] [(.long q3)])) t → Steps p.tables e below G t := fun t k => K68 t (st69.trans k)
    obtain ⟨fs, hr, hrun, hended, hW, hsame⟩ := X69.leave (v := some (.int (1 : Int32))) (fun h => by rw [Bd.returns] at h; cases h)
    have KF := K71
    rw [hG] at KF
    refine ⟨_, _, KF _ ?_, hrun, hended, _, _, rfl, ?_, ⟨_, rfl⟩, hW, hsame.mono (by decide) (by decide)⟩
    · show Steps p.tables e below (T69.setTop (mkF m 112 #[.val (.int p1), .val (.long q2), .second, .val (.long q3), .second, .val (.long q4), .second, .val (.long q5), .second, .val (.long q6), .second, .val (.int (2 : Int32)), .val (.ref b36), .val (.long q3), .second, .val (.ref b53)] [(.long q3)])) _
      refine XS.lload X69.here hx rfl (hb hby at_112) rfl ?_
      show Steps p.tables e below (T69.setTop (mkF m 114 #[.val (.int p1), .val (.long q2), .second, .val (.long q3), .second, .val (.long q4), .second, .val (.long q5), .second, .val (.long q6), .second, .val (.int (2 : Int32)), .val (.ref b36), .val (.long q3), .second, .val (.ref b53)] [(.long q3), (.long q3)])) _
      refine XS.lcmp X69.here hx rfl (hb hby at_114) rfl ?_
      show Steps p.tables e below (T69.setTop (mkF m 115 #[.val (.int p1), .val (.long q2), .second, .val (.long q3), .second, .val (.long q4), .second, .val (.long q5), .second, .val (.long q6), .second, .val (.int (2 : Int32)), .val (.ref b36), .val (.long q3), .second, .val (.ref b53)] [(.int (lcmpW q3 q3))])) _
      refine XS.ifNo X69.here hx rfl (hb hby at_115) rfl ((if0 _ _).trans (teq ((lw_eq q3 q3).mpr (rfl : q3 = q3))).2) ?_
      show Steps p.tables e below (T69.setTop (mkF m 118 #[.val (.int p1), .val (.long q2), .second, .val (.long q3), .second, .val (.long q4), .second, .val (.long q5), .second, .val (.long q6), .second, .val (.int (2 : Int32)), .val (.ref b36), .val (.long q3), .second, .val (.ref b53)] [])) _
      refine XS.iconst X69.here hx rfl (hb hby at_118) ?_
      show Steps p.tables e below (T69.setTop (mkF m 119 #[.val (.int p1), .val (.long q2), .second, .val (.long q3), .second, .val (.long q4), .second, .val (.long q5), .second, .val (.long q6), .second, .val (.int (2 : Int32)), .val (.ref b36), .val (.long q3), .second, .val (.ref b53)] [(.int (1 : Int32))])) _
      refine XS.goto X69.here hx rfl (pc0 := 119) (pc' := 123) rfl (hb hby at_119) (by decide) (by decide) ?_
      show Steps p.tables e below (T69.setTop (mkF m 123 #[.val (.int p1), .val (.long q2), .second, .val (.long q3), .second, .val (.long q4), .second, .val (.long q5), .second, .val (.long q6), .second, .val (.int (2 : Int32)), .val (.ref b36), .val (.long q3), .second, .val (.ref b53)] [(.int (1 : Int32))])) _
      exact retN X69 hx (t := .boolean) Bd.returns (by simp) (hb hby at_123) hr
    · show Q0 n0 _ T69.heap _
      rw [e69]
      exact ⟨rfl, N70⟩
  · have K72 : ∀ t, Steps p.tables e below (s₁.setTop (mkF m 7 #[.val (.int p1), .val (.long q2), .second, .val (.long q3), .second, .val (.long q4), .second, .val (.long q5), .second, .val (.long q6), .second, .val (.int (3 : Int32)), .unset, .unset, .unset, .unset] [])) t → Steps p.tables e below G t := by have q := K1; rw [hN] at q; exact q
    have K73 : ∀ t, Steps p.tables e below (s₁.setTop (mkF m 9 #[.val (.int p1), .val (.long q2), .second, .val (.long q3), .second, .val (.long q4), .second, .val (.long q5), .second, .val (.long q6), .second, .val (.int (3 : Int32)), .unset, .unset, .unset, .unset] [(.int (3 : Int32))])) t → Steps p.tables e below G t := by
      intro t k
      refine K72 t ?_
      show Steps p.tables e below (s₁.setTop (mkF m 7 #[.val (.int p1), .val (.long q2), .second, .val (.long q3), .second, .val (.long q4), .second, .val (.long q5), .second, .val (.long q6), .second, .val (.int (3 : Int32)), .unset, .unset, .unset, .unset] [])) _
      refine XS.iload X0.here hx rfl (hb hby at_7) rfl ?_
      show Steps p.tables e below (s₁.setTop (mkF m 9 #[.val (.int p1), .val (.long q2), .second, .val (.long q3), .second, .val (.long q4), .second, .val (.long q5), .second, .val (.long q6), .second, .val (.int (3 : Int32)), .unset, .unset, .unset, .unset] [(.int (3 : Int32))])) _
      exact k
    obtain ⟨T74, h74, k74, X74, e74, E74, A74, st74⟩ := newP X0 hx hZ (hw _ (List.mem_of_getElem? (i := 0) rfl)) e0 (g := (mkF m 9 #[.val (.int p1), .val (.long q2), .second, .val (.long q3), .second, .val (.long q4), .second, .val (.long q5), .second, .val (.long q6), .second, .val (.int (3 : Int32)), .unset, .unset, .unset, .unset] [(.int (3 : Int32))])) rfl (hb hby at_9) rfl (by decide) (cap := 3) (by decide) (by decide) (by decide) (by decide)
    obtain ⟨b74, g74⟩ : ∃ z, z = h0.size := ⟨_, rfl⟩
    rw [← g74] at A74 st74
    have g_b74 : n0 ≤ b74 := Nat.le_trans Z0 (Nat.le_of_eq g74.symm)
    have sz_b74 : h0.size ≤ b74 := Nat.le_trans KP0.1 (Nat.le_of_eq g74.symm)
    have Z75 : n0 ≤ h74.size := Nat.le_trans Z0 E74.1
    have KP76 : Keep h0 h74 [] := KP0.ext E74
    have K77 : ∀ t, Steps p.tables e below (T74.setTop (mkF m 11 #[.val (.int p1), .val (.long q2), .second, .val (.long q3), .second, .val (.long q4), .second, .val (.long q5), .second, .val (.long q6), .second, .val (.int (3 : Int32)), .unset, .unset, .unset, .unset] [(.ref b74)])) t → Steps p.tables e below G t := fun t k => K73 t (st74 t k)
    have V74 : Arv Z h74 b74 k74 .long (3 : Int32) [(.long (0 : Int64)), (.long (0 : Int64)), (.long (0 : Int64))] (.long (0 : Int64)) := (Arv.new A74 (by decide)).pad (pad_rep [] (.long (0 : Int64)) 3)
    have K78 : ∀ t, Steps p.tables e below (T74.setTop (mkF m 17 #[.val (.int p1), .val (.long q2), .second, .val (.long q3), .second, .val (.long q4), .second, .val (.long q5), .second, .val (.long q6), .second, .val (.int (3 : Int32)), .val (.ref b74), .unset, .unset, .unset] [(.long q2), (.int (0 : Int32)), (.ref b74)])) t → Steps p.tables e below G t := by
      intro t k
      refine K77 t ?_
      show Steps p.tables e below (T74.setTop (mkF m 11 #[.val (.int p1), .val (.long q2), .second, .val (.long q3), .second, .val (.long q4), .second, .val (.long q5), .second, .val (.long q6), .second, .val (.int (3 : Int32)), .unset, .unset, .unset, .unset] [(.ref b74)])) _
      refine XS.astore X74.here hx rfl (hb hby at_11) rfl rfl (l' := #[.val (.int p1), .val (.long q2), .second, .val (.long q3), .second, .val (.long q4), .second, .val (.long q5), .second, .val (.long q6), .second, .val (.int (3 : Int32)), .val (.ref b74), .unset, .unset, .unset]) rfl ?_
      show Steps p.tables e below (T74.setTop (mkF m 13 #[.val (.int p1), .val (.long q2), .second, .val (.long q3), .second, .val (.long q4), .second, .val (.long q5), .second, .val (.long q6), .second, .val (.int (3 : Int32)), .val (.ref b74), .unset, .unset, .unset] [])) _
      refine XS.aload X74.here hx rfl (hb hby at_13) rfl rfl ?_
      show Steps p.tables e below (T74.setTop (mkF m 15 #[.val (.int p1), .val (.long q2), .second, .val (.long q3), .second, .val (.long q4), .second, .val (.long q5), .second, .val (.long q6), .second, .val (.int (3 : Int32)), .val (.ref b74), .unset, .unset, .unset] [(.ref b74)])) _
      refine XS.iconst X74.here hx rfl (hb hby at_15) ?_
      show Steps p.tables e below (T74.setTop (mkF m 16 #[.val (.int p1), .val (.long q2), .second, .val (.long q3), .second, .val (.long q4), .second, .val (.long q5), .second, .val (.long q6), .second, .val (.int (3 : Int32)), .val (.ref b74), .unset, .unset, .unset] [(.int (0 : Int32)), (.ref b74)])) _
      refine XS.lloadN X74.here hx rfl (hb hby at_16) rfl ?_
      show Steps p.tables e below (T74.setTop (mkF m 17 #[.val (.int p1), .val (.long q2), .second, .val (.long q3), .second, .val (.long q4), .second, .val (.long q5), .second, .val (.long q6), .second, .val (.int (3 : Int32)), .val (.ref b74), .unset, .unset, .unset] [(.long q2), (.int (0 : Int32)), (.ref b74)])) _
      exact k
    obtain ⟨cl79, Ar79, q79, S79, M79, Ha79, Ga79⟩ := id V74
    have hin79 : ¬ ((0 : Int32) < 0 ∨ cl79.slots.size ≤ ((0 : Int32)).toNatClampNeg) := inb_of S79 ⟨by decide, by decide⟩
    obtain ⟨T79, h79, X79, e79, W79, st79⟩ := stJ X74 hx hZ e74 Ar79 (j := (0 : Int32)) hin79 (g := (mkF m 17 #[.val (.int p1), .val (.long q2), .second, .val (.long q3), .second, .val (.long q4), .second, .val (.long q5), .second, .val (.long q6), .second, .val (.int (3 : Int32)), .val (.ref b74), .unset, .unset, .unset] [(.long q2), (.int (0 : Int32)), (.ref b74)])) rfl rfl (hb hby at_17)
    have V79 : Arv Z h79 b74 k74 .long (3 : Int32) [(.long q2), (.long (0 : Int64)), (.long (0 : Int64))] (.long (0 : Int64)) := Arv.set Ar79 q79 S79 M79 Ha79 Ga79 rfl W79 0 rfl (Nat.le_of_ble_eq_true rfl)
    have K80 : ∀ t, Steps p.tables e below (T79.setTop (mkF m 18 #[.val (.int p1), .val (.long q2), .second, .val (.long q3), .second, .val (.long q4), .second, .val (.long q5), .second, .val (.long q6), .second, .val (.int (3 : Int32)), .val (.ref b74), .unset, .unset, .unset] [])) t → Steps p.tables e below G t := fun t k => K78 t (st79 t k)
    have Z81 : n0 ≤ h79.size := Nat.le_trans Z75 (Keep.of_wr W79).1
    have KP82 : Keep h0 h79 [] := KP76.wr W79 (Or.inr sz_b74)
    have N83 := Fr.snoc X79 N0 g_b74
    have K84 : ∀ t, Steps p.tables e below (T79.setTop (mkF m 28 #[.val (.int p1), .val (.long q2), .second, .val (.long q3), .second, .val (.long q4), .second, .val (.long q5), .second, .val (.long q6), .second, .val (.int (3 : Int32)), .val (.ref b74), .unset, .unset, .unset] [(.long q3), (.int (1 : Int32)), (.ref b74)])) t → Steps p.tables e below G t := by
      intro t k
      refine K80 t ?_
      show Steps p.tables e below (T79.setTop (mkF m 18 #[.val (.int p1), .val (.long q2), .second, .val (.long q3), .second, .val (.long q4), .second, .val (.long q5), .second, .val (.long q6), .second, .val (.int (3 : Int32)), .val (.ref b74), .unset, .unset, .unset] [])) _
      refine XS.iload X79.here hx rfl (hb hby at_18) rfl ?_
      show Steps p.tables e below (T79.setTop (mkF m 20 #[.val (.int p1), .val (.long q2), .second, .val (.long q3), .second, .val (.long q4), .second, .val (.long q5), .second, .val (.long q6), .second, .val (.int (3 : Int32)), .val (.ref b74), .unset, .unset, .unset] [(.int (3 : Int32))])) _
      refine XS.iconst X79.here hx rfl (hb hby at_20) ?_
      show Steps p.tables e below (T79.setTop (mkF m 21 #[.val (.int p1), .val (.long q2), .second, .val (.long q3), .second, .val (.long q4), .second, .val (.long q5), .second, .val (.long q6), .second, .val (.int (3 : Int32)), .val (.ref b74), .unset, .unset, .unset] [(.int (1 : Int32)), (.int (3 : Int32))])) _
      refine XS.icmpNo X79.here hx rfl (hb hby at_21) rfl (tlt (by decide)).2.2.2 ?_
      show Steps p.tables e below (T79.setTop (mkF m 24 #[.val (.int p1), .val (.long q2), .second, .val (.long q3), .second, .val (.long q4), .second, .val (.long q5), .second, .val (.long q6), .second, .val (.int (3 : Int32)), .val (.ref b74), .unset, .unset, .unset] [])) _
      refine XS.aload X79.here hx rfl (hb hby at_24) rfl rfl ?_
      show Steps p.tables e below (T79.setTop (mkF m 26 #[.val (.int p1), .val (.long q2), .second, .val (.long q3), .second, .val (.long q4), .second, .val (.long q5), .second, .val (.long q6), .second, .val (.int (3 : Int32)), .val (.ref b74), .unset, .unset, .unset] [(.ref b74)])) _
      refine XS.iconst X79.here hx rfl (hb hby at_26) ?_
      show Steps p.tables e below (T79.setTop (mkF m 27 #[.val (.int p1), .val (.long q2), .second, .val (.long q3), .second, .val (.long q4), .second, .val (.long q5), .second, .val (.long q6), .second, .val (.int (3 : Int32)), .val (.ref b74), .unset, .unset, .unset] [(.int (1 : Int32)), (.ref b74)])) _
      refine XS.lloadN X79.here hx rfl (hb hby at_27) rfl ?_
      show Steps p.tables e below (T79.setTop (mkF m 28 #[.val (.int p1), .val (.long q2), .second, .val (.long q3), .second, .val (.long q4), .second, .val (.long q5), .second, .val (.long q6), .second, .val (.int (3 : Int32)), .val (.ref b74), .unset, .unset, .unset] [(.long q3), (.int (1 : Int32)), (.ref b74)])) _
      exact k
    obtain ⟨cl85, Ar85, q85, S85, M85, Ha85, Ga85⟩ := id V79
    have hin85 : ¬ ((1 : Int32) < 0 ∨ cl85.slots.size ≤ ((1 : Int32)).toNatClampNeg) := inb_of S85 ⟨by decide, by decide⟩
    obtain ⟨T85, h85, X85, e85, W85, st85⟩ := stJ X79 hx hZ e79 Ar85 (j := (1 : Int32)) hin85 (g := (mkF m 28 #[.val (.int p1), .val (.long q2), .second, .val (.long q3), .second, .val (.long q4), .second, .val (.long q5), .second, .val (.long q6), .second, .val (.int (3 : Int32)), .val (.ref b74), .unset, .unset, .unset] [(.long q3), (.int (1 : Int32)), (.ref b74)])) rfl rfl (hb hby at_28)
    have V85 : Arv Z h85 b74 k74 .long (3 : Int32) [(.long q2), (.long q3), (.long (0 : Int64))] (.long (0 : Int64)) := Arv.set Ar85 q85 S85 M85 Ha85 Ga85 rfl W85 1 rfl (Nat.le_of_ble_eq_true rfl)
    have K86 : ∀ t, Steps p.tables e below (T85.setTop (mkF m 29 #[.val (.int p1), .val (.long q2), .second, .val (.long q3), .second, .val (.long q4), .second, .val (.long q5), .second, .val (.long q6), .second, .val (.int (3 : Int32)), .val (.ref b74), .unset, .unset, .unset] [])) t → Steps p.tables e below G t := fun t k => K84 t (st85 t k)
    have Z87 : n0 ≤ h85.size := Nat.le_trans Z81 (Keep.of_wr W85).1
    have KP88 : Keep h0 h85 [] := KP82.wr W85 (Or.inr sz_b74)
    have N89 := Fr.snoc X85 N83 g_b74
    have K90 : ∀ t, Steps p.tables e below (T85.setTop (mkF m 40 #[.val (.int p1), .val (.long q2), .second, .val (.long q3), .second, .val (.long q4), .second, .val (.long q5), .second, .val (.long q6), .second, .val (.int (3 : Int32)), .val (.ref b74), .unset, .unset, .unset] [(.long q4), (.int (2 : Int32)), (.ref b74)])) t → Steps p.tables e below G t := by
      intro t k
      refine K86 t ?_
      show Steps p.tables e below (T85.setTop (mkF m 29 #[.val (.int p1), .val (.long q2), .second, .val (.long q3), .second, .val (.long q4), .second, .val (.long q5), .second, .val (.long q6), .second, .val (.int (3 : Int32)), .val (.ref b74), .unset, .unset, .unset] [])) _
      refine XS.iload X85.here hx rfl (hb hby at_29) rfl ?_
      show Steps p.tables e below (T85.setTop (mkF m 31 #[.val (.int p1), .val (.long q2), .second, .val (.long q3), .second, .val (.long q4), .second, .val (.long q5), .second, .val (.long q6), .second, .val (.int (3 : Int32)), .val (.ref b74), .unset, .unset, .unset] [(.int (3 : Int32))])) _
      refine XS.iconst X85.here hx rfl (hb hby at_31) ?_
      show Steps p.tables e below (T85.setTop (mkF m 32 #[.val (.int p1), .val (.long q2), .second, .val (.long q3), .second, .val (.long q4), .second, .val (.long q5), .second, .val (.long q6), .second, .val (.int (3 : Int32)), .val (.ref b74), .unset, .unset, .unset] [(.int (2 : Int32)), (.int (3 : Int32))])) _
      refine XS.icmpNo X85.here hx rfl (hb hby at_32) rfl (tlt (by decide)).2.2.2 ?_
      show Steps p.tables e below (T85.setTop (mkF m 35 #[.val (.int p1), .val (.long q2), .second, .val (.long q3), .second, .val (.long q4), .second, .val (.long q5), .second, .val (.long q6), .second, .val (.int (3 : Int32)), .val (.ref b74), .unset, .unset, .unset] [])) _
      refine XS.aload X85.here hx rfl (hb hby at_35) rfl rfl ?_
      show Steps p.tables e below (T85.setTop (mkF m 37 #[.val (.int p1), .val (.long q2), .second, .val (.long q3), .second, .val (.long q4), .second, .val (.long q5), .second, .val (.long q6), .second, .val (.int (3 : Int32)), .val (.ref b74), .unset, .unset, .unset] [(.ref b74)])) _
      refine XS.iconst X85.here hx rfl (hb hby at_37) ?_
      show Steps p.tables e below (T85.setTop (mkF m 38 #[.val (.int p1), .val (.long q2), .second, .val (.long q3), .second, .val (.long q4), .second, .val (.long q5), .second, .val (.long q6), .second, .val (.int (3 : Int32)), .val (.ref b74), .unset, .unset, .unset] [(.int (2 : Int32)), (.ref b74)])) _
      refine XS.lload X85.here hx rfl (hb hby at_38) rfl ?_
      show Steps p.tables e below (T85.setTop (mkF m 40 #[.val (.int p1), .val (.long q2), .second, .val (.long q3), .second, .val (.long q4), .second, .val (.long q5), .second, .val (.long q6), .second, .val (.int (3 : Int32)), .val (.ref b74), .unset, .unset, .unset] [(.long q4), (.int (2 : Int32)), (.ref b74)])) _
      exact k
    obtain ⟨cl91, Ar91, q91, S91, M91, Ha91, Ga91⟩ := id V85
    have hin91 : ¬ ((2 : Int32) < 0 ∨ cl91.slots.size ≤ ((2 : Int32)).toNatClampNeg) := inb_of S91 ⟨by decide, by decide⟩
    obtain ⟨T91, h91, X91, e91, W91, st91⟩ := stJ X85 hx hZ e85 Ar91 (j := (2 : Int32)) hin91 (g := (mkF m 40 #[.val (.int p1), .val (.long q2), .second, .val (.long q3), .second, .val (.long q4), .second, .val (.long q5), .second, .val (.long q6), .second, .val (.int (3 : Int32)), .val (.ref b74), .unset, .unset, .unset] [(.long q4), (.int (2 : Int32)), (.ref b74)])) rfl rfl (hb hby at_40)
    have V91 : Arv Z h91 b74 k74 .long (3 : Int32) [(.long q2), (.long q3), (.long q4)] (.long (0 : Int64)) := Arv.set Ar91 q91 S91 M91 Ha91 Ga91 rfl W91 2 rfl (Nat.le_of_ble_eq_true rfl)
    have K92 : ∀ t, Steps p.tables e below (T91.setTop (mkF m 41 #[.val (.int p1), .val (.long q2), .second, .val (.long q3), .second, .val (.long q4), .second, .val (.long q5), .second, .val (.long q6), .second, .val (.int (3 : Int32)), .val (.ref b74), .unset, .unset, .unset] [])) t → Steps p.tables e below G t := fun t k => K90 t (st91 t k)
    have Z93 : n0 ≤ h91.size := Nat.le_trans Z87 (Keep.of_wr W91).1
    have KP94 : Keep h0 h91 [] := KP88.wr W91 (Or.inr sz_b74)
    have N95 := Fr.snoc X91 N89 g_b74
    have K96 : ∀ t, Steps p.tables e below (T91.setTop (mkF m 94 #[.val (.int p1), .val (.long q2), .second, .val (.long q3), .second, .val (.long q4), .second, .val (.long q5), .second, .val (.long q6), .second, .val (.int (3 : Int32)), .val (.ref b74), .val (.long q4), .second, .unset] [])) t → Steps p.tables e below G t := by
      intro t k
      refine K92 t ?_
      show Steps p.tables e below (T91.setTop (mkF m 41 #[.val (.int p1), .val (.long q2), .second, .val (.long q3), .second, .val (.long q4), .second, .val (.long q5), .second, .val (.long q6), .second, .val (.int (3 : Int32)), .val (.ref b74), .unset, .unset, .unset] [])) _
      refine XS.iload X91.here hx rfl (hb hby at_41) rfl ?_
      show Steps p.tables e below (T91.setTop (mkF m 43 #[.val (.int p1), .val (.long q2), .second, .val (.long q3), .second, .val (.long q4), .second, .val (.long q5), .second, .val (.long q6), .second, .val (.int (3 : Int32)), .val (.ref b74), .unset, .unset, .unset] [(.int (3 : Int32))])) _
      refine XS.iconst X91.here hx rfl (hb hby at_43) ?_
      show Steps p.tables e below (T91.setTop (mkF m 44 #[.val (.int p1), .val (.long q2), .second, .val (.long q3), .second, .val (.long q4), .second, .val (.long q5), .second, .val (.long q6), .second, .val (.int (3 : Int32)), .val (.ref b74), .unset, .unset, .unset] [(.int (3 : Int32)), (.int (3 : Int32))])) _
      refine XS.icmpYes X91.here hx rfl (pc0 := 44) (pc' := 53) rfl (hb hby at_44) rfl (flt (by decide)).2.2.2 (by decide) (by decide) ?_
      show Steps p.tables e below (T91.setTop (mkF m 53 #[.val (.int p1), .val (.long q2), .second, .val (.long q3), .second, .val (.long q4), .second, .val (.long q5), .second, .val (.long q6), .second, .val (.int (3 : Int32)), .val (.ref b74), .unset, .unset, .unset] [])) _
      refine XS.iload X91.here hx rfl (hb hby at_53) rfl ?_
      show Steps p.tables e below (T91.setTop (mkF m 55 #[.val (.int p1), .val (.long q2), .second, .val (.long q3), .second, .val (.long q4), .second, .val (.long q5), .second, .val (.long q6), .second, .val (.int (3 : Int32)), .val (.ref b74), .unset, .unset, .unset] [(.int (3 : Int32))])) _
      refine XS.iconst X91.here hx rfl (hb hby at_55) ?_
      show Steps p.tables e below (T91.setTop (mkF m 56 #[.val (.int p1), .val (.long q2), .second, .val (.long q3), .second, .val (.long q4), .second, .val (.long q5), .second, .val (.long q6), .second, .val (.int (3 : Int32)), .val (.ref b74), .unset, .unset, .unset] [(.int (1 : Int32)), (.int (3 : Int32))])) _
      refine XS.icmpYes X91.here hx rfl (pc0 := 56) (pc' := 65) rfl (hb hby at_56) rfl (feq (by decide)).2 (by decide) (by decide) ?_
      show Steps p.tables e below (T91.setTop (mkF m 65 #[.val (.int p1), .val (.long q2), .second, .val (.long q3), .second, .val (.long q4), .second, .val (.long q5), .second, .val (.long q6), .second, .val (.int (3 : Int32)), .val (.ref b74), .unset, .unset, .unset] [])) _
      refine XS.iload X91.here hx rfl (hb hby at_65) rfl ?_
      show Steps p.tables e below (T91.setTop (mkF m 67 #[.val (.int p1), .val (.long q2), .second, .val (.long q3), .second, .val (.long q4), .second, .val (.long q5), .second, .val (.long q6), .second, .val (.int (3 : Int32)), .val (.ref b74), .unset, .unset, .unset] [(.int (3 : Int32))])) _
      refine XS.iconst X91.here hx rfl (hb hby at_67) ?_
      show Steps p.tables e below (T91.setTop (mkF m 68 #[.val (.int p1), .val (.long q2), .second, .val (.long q3), .second, .val (.long q4), .second, .val (.long q5), .second, .val (.long q6), .second, .val (.int (3 : Int32)), .val (.ref b74), .unset, .unset, .unset] [(.int (2 : Int32)), (.int (3 : Int32))])) _
      refine XS.icmpYes X91.here hx rfl (pc0 := 68) (pc' := 77) rfl (hb hby at_68) rfl (feq (by decide)).2 (by decide) (by decide) ?_
      show Steps p.tables e below (T91.setTop (mkF m 77 #[.val (.int p1), .val (.long q2), .second, .val (.long q3), .second, .val (.long q4), .second, .val (.long q5), .second, .val (.long q6), .second, .val (.int (3 : Int32)), .val (.ref b74), .unset, .unset, .unset] [])) _
      refine XS.iload X91.here hx rfl (hb hby at_77) rfl ?_
      show Steps p.tables e below (T91.setTop (mkF m 79 #[.val (.int p1), .val (.long q2), .second, .val (.long q3), .second, .val (.long q4), .second, .val (.long q5), .second, .val (.long q6), .second, .val (.int (3 : Int32)), .val (.ref b74), .unset, .unset, .unset] [(.int (3 : Int32))])) _
      refine XS.iconst X91.here hx rfl (hb hby at_79) ?_
      show Steps p.tables e below (T91.setTop (mkF m 80 #[.val (.int p1), .val (.long q2), .second, .val (.long q3), .second, .val (.long q4), .second, .val (.long q5), .second, .val (.long q6), .second, .val (.int (3 : Int32)), .val (.ref b74), .unset, .unset, .unset] [(.int (3 : Int32)), (.int (3 : Int32))])) _
      refine XS.icmpNo X91.here hx rfl (hb hby at_80) rfl (teq (by decide)).2 ?_
      show Steps p.tables e below (T91.setTop (mkF m 83 #[.val (.int p1), .val (.long q2), .second, .val (.long q3), .second, .val (.long q4), .second, .val (.long q5), .second, .val (.long q6), .second, .val (.int (3 : Int32)), .val (.ref b74), .unset, .unset, .unset] [])) _
      refine XS.lload X91.here hx rfl (hb hby at_83) rfl ?_
      show Steps p.tables e below (T91.setTop (mkF m 85 #[.val (.int p1), .val (.long q2), .second, .val (.long q3), .second, .val (.long q4), .second, .val (.long q5), .second, .val (.long q6), .second, .val (.int (3 : Int32)), .val (.ref b74), .unset, .unset, .unset] [(.long q4)])) _
      refine XS.lstore X91.here hx rfl (hb hby at_85) rfl (l' := #[.val (.int p1), .val (.long q2), .second, .val (.long q3), .second, .val (.long q4), .second, .val (.long q5), .second, .val (.long q6), .second, .val (.int (3 : Int32)), .val (.ref b74), .val (.long q4), .second, .unset]) rfl ?_
      show Steps p.tables e below (T91.setTop (mkF m 87 #[.val (.int p1), .val (.long q2), .second, .val (.long q3), .second, .val (.long q4), .second, .val (.long q5), .second, .val (.long q6), .second, .val (.int (3 : Int32)), .val (.ref b74), .val (.long q4), .second, .unset] [])) _
      refine XS.goto X91.here hx rfl (pc0 := 87) (pc' := 94) rfl (hb hby at_87) (by decide) (by decide) ?_
      show Steps p.tables e below (T91.setTop (mkF m 94 #[.val (.int p1), .val (.long q2), .second, .val (.long q3), .second, .val (.long q4), .second, .val (.long q5), .second, .val (.long q6), .second, .val (.int (3 : Int32)), .val (.ref b74), .val (.long q4), .second, .unset] [])) _
      exact k
    obtain ⟨T97, h97, X97, e97, E97, A97, D97, -, st97⟩ := newO X91 hx hZ hown (hw _ (List.mem_of_getElem? (i := 1) rfl)) (hw _ (List.mem_of_getElem? (i := 2) rfl)) (hw _ (List.mem_of_getElem? (i := 3) rfl)) e91 (g := (mkF m 94 #[.val (.int p1), .val (.long q2), .second, .val (.long q3), .second, .val (.long q4), .second, .val (.long q5), .second, .val (.long q6), .second, .val (.int (3 : Int32)), .val (.ref b74), .val (.long q4), .second, .unset] [])) rfl (hb hby at_94) (by decide) (by decide)
    obtain ⟨b97, g97⟩ : ∃ z, z = h91.size := ⟨_, rfl⟩
    rw [← g97] at A97 D97 st97
    have ne_b74_b97 : b74 ≠ b97 := Nat.ne_of_lt (Nat.lt_of_lt_of_le V91.lt (Nat.le_of_eq g97.symm))
    have g_b97 : n0 ≤ b97 := Nat.le_trans Z93 (Nat.le_of_eq g97.symm)
    have sz_b97 : h0.size ≤ b97 := Nat.le_trans KP94.1 (Nat.le_of_eq g97.symm)
    have f98 := V91.ext E97
    have Z99 : n0 ≤ h97.size := Nat.le_trans Z93 E97.1
    have KP100 : Keep h0 h97 [] := KP94.ext E97
    have K101 : ∀ t, Steps p.tables e below (T97.setTop (mkF m 97 #[.val (.int p1), .val (.long q2), .second, .val (.long q3), .second, .val (.long q4), .second, .val (.long q5), .second, .val (.long q6), .second, .val (.int (3 : Int32)), .val (.ref b74), .val (.long q4), .second, .unset] [(.ref b97)])) t → Steps p.tables e below G t := fun t k => K96 t (st97 t k)
    have f102 : Fld Z h97 b97 "com/example/conq/conq/model/Histogram$Read" "cumulative" "[J" .null := D97 (Or.inr (hw _ (List.mem_of_getElem? (i := 11) rfl))) (ty := (.array .long)) (by decide)
    have f103 : Fld Z h97 b97 "com/example/conq/conq/model/Histogram$Read" "sum" "J" (.long (0 : Int64)) := D97 (Or.inr (hw _ (List.mem_of_getElem? (i := 13) rfl))) (ty := .long) (by decide)
    have K104 : ∀ t, Steps p.tables e below (T97.setTop (mkF m 102 #[.val (.int p1), .val (.long q2), .second, .val (.long q3), .second, .val (.long q4), .second, .val (.long q5), .second, .val (.long q6), .second, .val (.int (3 : Int32)), .val (.ref b74), .val (.long q4), .second, .unset] [(.long q6), (.ref b74), (.ref b97), (.ref b97)])) t → Steps p.tables e below G t := by
      intro t k
      refine K101 t ?_
      show Steps p.tables e below (T97.setTop (mkF m 97 #[.val (.int p1), .val (.long q2), .second, .val (.long q3), .second, .val (.long q4), .second, .val (.long q5), .second, .val (.long q6), .second, .val (.int (3 : Int32)), .val (.ref b74), .val (.long q4), .second, .unset] [(.ref b97)])) _
      refine XS.dup X97.here hx rfl (hb hby at_97) rfl rfl ?_
      show Steps p.tables e below (T97.setTop (mkF m 98 #[.val (.int p1), .val (.long q2), .second, .val (.long q3), .second, .val (.long q4), .second, .val (.long q5), .second, .val (.long q6), .second, .val (.int (3 : Int32)), .val (.ref b74), .val (.long q4), .second, .unset] [(.ref b97), (.ref b97)])) _
      refine XS.aload X97.here hx rfl (hb hby at_98) rfl rfl ?_
      show Steps p.tables e below (T97.setTop (mkF m 100 #[.val (.int p1), .val (.long q2), .second, .val (.long q3), .second, .val (.long q4), .second, .val (.long q5), .second, .val (.long q6), .second, .val (.int (3 : Int32)), .val (.ref b74), .val (.long q4), .second, .unset] [(.ref b74), (.ref b97), (.ref b97)])) _
      refine XS.lload X97.here hx rfl (hb hby at_100) rfl ?_
      show Steps p.tables e below (T97.setTop (mkF m 102 #[.val (.int p1), .val (.long q2), .second, .val (.long q3), .second, .val (.long q4), .second, .val (.long q5), .second, .val (.long q6), .second, .val (.int (3 : Int32)), .val (.ref b74), .val (.long q4), .second, .unset] [(.long q6), (.ref b74), (.ref b97), (.ref b97)])) _
      exact k
    obtain ⟨_, _, ⟨T105, L105, k105, n105⟩, -, X105, ⟨Lc105, hQ105, l105, y105, z105⟩, st105⟩ := X97.specialBack hx (y := (⟨"com/example/conq/conq/model/Histogram$Read", "<init>", "([JJ)V"⟩ : MethodName)) rfl hown (mvT hZ (hw _ (List.mem_of_getElem? (i := 4) rfl))) (mvT hZ (hw _ (List.mem_of_getElem? (i := 5) rfl))) (mvT hZ (hw _ (List.mem_of_getElem? (i := 6) rfl))) (by decide) (backOf (W := 1) (rm1 l Z a0 hw [] b97 b74 q6 h97 n0 Z99 A97 f102 f103 g_b97) hZ (hw _ (List.mem_of_getElem? (i := 6) rfl)) (hw _ (List.mem_of_getElem? (i := 3) rfl)) (by decide) (by decide)) (g := (mkF m 102 #[.val (.int p1), .val (.long q2), .second, .val (.long q3), .second, .val (.long q4), .second, .val (.long q5), .second, .val (.long q6), .second, .val (.int (3 : Int32)), .val (.ref b74), .val (.long q4), .second, .unset] [(.long q6), (.ref b74), (.ref b97), (.ref b97)])) rfl (by rw [hml]; rfl) (Steps.refl _) (a := b97) (argsL := [(.ref b74), (.long q6)]) (rest := [(.ref b97)]) (lenOf pd_0 rfl) rfl (by show 2 * 0 + _ ≤ _; exact Nat.le_of_eq rfl) (hb hby at_102) (fun _ _ => ⟨rfl, e97, (by decide : 2 + 0 ≤ _), (by decide : 5 + 0 ≤ _)⟩)
    dsimp only [Pt.U, Pt.locs, Pt.cells, Pt.slots] at X105 l105 y105 z105 st105 hQ105
    subst l105 y105 z105
    obtain ⟨rfl, Nq105, K105, E105', Fc105⟩ := hQ105
    have N106 := Fr.app N95 Nq105
    have f107 := f98.keep K105 (ninS ne_b74_b97 nin0)
    have f108 := A97.keep K105
    have Z109 : n0 ≤ T105.heap.size := Nat.le_trans Z99 K105.1
    have KP110 : Keep h0 T105.heap [] := KP100.trans K105 (allS (Or.inr sz_b97) all0)
    have K111 : ∀ t, Steps p.tables e below (T105.setTop (mkF m 105 #[.val (.int p1), .val (.long q2), .second, .val (.long q3), .second, .val (.long q4), .second, .val (.long q5), .second, .val (.long q6), .second, .val (.int (3 : Int32)), .val (.ref b74), .val (.long q4), .second, .unset] [(.ref b97)])) t → Steps p.tables e below G t := fun t k => K104 t (st105.trans k)
    have K112 : ∀ t, Steps p.tables e below (T105.setTop (mkF m 109 #[.val (.int p1), .val (.long q2), .second, .val (.long q3), .second, .val (.long q4), .second, .val (.long q5), .second, .val (.long q6), .second, .val (.int (3 : Int32)), .val (.ref b74), .val (.long q4), .second, .val (.ref b97)] [(.ref b97)])) t → Steps p.tables e below G t := by
      intro t k
      refine K111 t ?_
      show Steps p.tables e below (T105.setTop (mkF m 105 #[.val (.int p1), .val (.long q2), .second, .val (.long q3), .second, .val (.long q4), .second, .val (.long q5), .second, .val (.long q6), .second, .val (.int (3 : Int32)), .val (.ref b74), .val (.long q4), .second, .unset] [(.ref b97)])) _
      refine XS.astore X105.here hx rfl (hb hby at_105) rfl rfl (l' := #[.val (.int p1), .val (.long q2), .second, .val (.long q3), .second, .val (.long q4), .second, .val (.long q5), .second, .val (.long q6), .second, .val (.int (3 : Int32)), .val (.ref b74), .val (.long q4), .second, .val (.ref b97)]) rfl ?_
      show Steps p.tables e below (T105.setTop (mkF m 107 #[.val (.int p1), .val (.long q2), .second, .val (.long q3), .second, .val (.long q4), .second, .val (.long q5), .second, .val (.long q6), .second, .val (.int (3 : Int32)), .val (.ref b74), .val (.long q4), .second, .val (.ref b97)] [])) _
      refine XS.aload X105.here hx rfl (hb hby at_107) rfl rfl ?_
      show Steps p.tables e below (T105.setTop (mkF m 109 #[.val (.int p1), .val (.long q2), .second, .val (.long q3), .second, .val (.long q4), .second, .val (.long q5), .second, .val (.long q6), .second, .val (.int (3 : Int32)), .val (.ref b74), .val (.long q4), .second, .val (.ref b97)] [(.ref b97)])) _
      exact k
    obtain ⟨cq113, kq113, q113a, q113b, q113c⟩ := isOf hZ rfl E105'
    obtain ⟨_, _, ⟨T113, L113, k113, n113⟩, -, X113, ⟨Lc113, hQ113, l113, y113, z113⟩, st113⟩ := X105.virtualBack hx (y := (⟨"com/example/conq/conq/model/Histogram$Read", "getCount", "()J"⟩ : MethodName)) (z := (⟨"com/example/conq/conq/model/Histogram$Read", "getCount", "()J"⟩ : MethodName)) hown (mvT hZ (hw _ (List.mem_of_getElem? (i := 14) rfl))) (mvT hZ (hw _ (List.mem_of_getElem? (i := 15) rfl))) (notFace_of_selects (args := #[]) (mvT hZ (hw _ (List.mem_of_getElem? (i := 17) rfl)))) (mvT hZ (hw _ (List.mem_of_getElem? (i := 17) rfl))) (mvT hZ (hw _ (List.mem_of_getElem? (i := 16) rfl))) (by decide) (backOf (W := 0) (rm3 l Z a0 hw [] b97 b74 k74 (3 : Int32) [(.long q2), (.long q3), (.long q4)] q4 T105.heap n0 Z109 Fc105 f107 ⟨by decide, by decide⟩ rfl) hZ (hw _ (List.mem_of_getElem? (i := 18) rfl)) (hw _ (List.mem_of_getElem? (i := 3) rfl)) (by decide) (by decide)) q113a q113c (g := (mkF m 109 #[.val (.int p1), .val (.long q2), .second, .val (.long q3), .second, .val (.long q4), .second, .val (.long q5), .second, .val (.long q6), .second, .val (.int (3 : Int32)), .val (.ref b74), .val (.long q4), .second, .val (.ref b97)] [(.ref b97)])) rfl (by rw [hml]; rfl) (Steps.refl _) (argsL := []) (rest := []) (lenOf pd_1 rfl) rfl (by show 2 * 0 + _ ≤ _; exact Nat.le_of_eq rfl) (hb hby at_109) (fun _ _ => ⟨rfl, rfl, (by decide : 2 + 0 ≤ _), (by decide : 5 + 0 ≤ _)⟩)
    dsimp only [Pt.U, Pt.locs, Pt.cells, Pt.slots] at X113 l113 y113 z113 st113 hQ113
    subst l113 y113 z113
    obtain ⟨rfl, Nq113, e113⟩ := hQ113
    have N114 := Fr.app N106 Nq113
    have K115 : ∀ t, Steps p.tables e below (T113.setTop (mkF m 112 #[.val (.int p1), .val (.long q2), .second, .val (.long q3), .second, .val (.long q4), .second, .val (.long q5), .second, .val (.long q6), .second, .val (.int (3 : Int32)), .val (.ref b74), .val (.long q4), .second, .val (.ref b97)] [(.long q4)])) t → Steps p.tables e below G t := fun t k => K112 t (st113.trans k)
    obtain ⟨fs, hr, hrun, hended, hW, hsame⟩ := X113.leave (v := some (.int (1 : Int32))) (fun h => by rw [Bd.returns] at h; cases h)
    have KF := K115
    rw [hG] at KF
    refine ⟨_, _, KF _ ?_, hrun, hended, _, _, rfl, ?_, ⟨_, rfl⟩, hW, hsame.mono (by decide) (by decide)⟩
    · show Steps p.tables e below (T113.setTop (mkF m 112 #[.val (.int p1), .val (.long q2), .second, .val (.long q3), .second, .val (.long q4), .second, .val (.long q5), .second, .val (.long q6), .second, .val (.int (3 : Int32)), .val (.ref b74), .val (.long q4), .second, .val (.ref b97)] [(.long q4)])) _
      refine XS.lload X113.here hx rfl (hb hby at_112) rfl ?_
      show Steps p.tables e below (T113.setTop (mkF m 114 #[.val (.int p1), .val (.long q2), .second, .val (.long q3), .second, .val (.long q4), .second, .val (.long q5), .second, .val (.long q6), .second, .val (.int (3 : Int32)), .val (.ref b74), .val (.long q4), .second, .val (.ref b97)] [(.long q4), (.long q4)])) _
      refine XS.lcmp X113.here hx rfl (hb hby at_114) rfl ?_
      show Steps p.tables e below (T113.setTop (mkF m 115 #[.val (.int p1), .val (.long q2), .second, .val (.long q3), .second, .val (.long q4), .second, .val (.long q5), .second, .val (.long q6), .second, .val (.int (3 : Int32)), .val (.ref b74), .val (.long q4), .second, .val (.ref b97)] [(.int (lcmpW q4 q4))])) _
      refine XS.ifNo X113.here hx rfl (hb hby at_115) rfl ((if0 _ _).trans (teq ((lw_eq q4 q4).mpr (rfl : q4 = q4))).2) ?_
      show Steps p.tables e below (T113.setTop (mkF m 118 #[.val (.int p1), .val (.long q2), .second, .val (.long q3), .second, .val (.long q4), .second, .val (.long q5), .second, .val (.long q6), .second, .val (.int (3 : Int32)), .val (.ref b74), .val (.long q4), .second, .val (.ref b97)] [])) _
      refine XS.iconst X113.here hx rfl (hb hby at_118) ?_
      show Steps p.tables e below (T113.setTop (mkF m 119 #[.val (.int p1), .val (.long q2), .second, .val (.long q3), .second, .val (.long q4), .second, .val (.long q5), .second, .val (.long q6), .second, .val (.int (3 : Int32)), .val (.ref b74), .val (.long q4), .second, .val (.ref b97)] [(.int (1 : Int32))])) _
      refine XS.goto X113.here hx rfl (pc0 := 119) (pc' := 123) rfl (hb hby at_119) (by decide) (by decide) ?_
      show Steps p.tables e below (T113.setTop (mkF m 123 #[.val (.int p1), .val (.long q2), .second, .val (.long q3), .second, .val (.long q4), .second, .val (.long q5), .second, .val (.long q6), .second, .val (.int (3 : Int32)), .val (.ref b74), .val (.long q4), .second, .val (.ref b97)] [(.int (1 : Int32))])) _
      exact retN X113 hx (t := .boolean) Bd.returns (by simp) (hb hby at_123) hr
    · show Q0 n0 _ T113.heap _
      rw [e113]
      exact ⟨rfl, N114⟩
  · have K116 : ∀ t, Steps p.tables e below (s₁.setTop (mkF m 7 #[.val (.int p1), .val (.long q2), .second, .val (.long q3), .second, .val (.long q4), .second, .val (.long q5), .second, .val (.long q6), .second, .val (.int (4 : Int32)), .unset, .unset, .unset, .unset] [])) t → Steps p.tables e below G t := by have q := K1; rw [hN] at q; exact q
    have K117 : ∀ t, Steps p.tables e below (s₁.setTop (mkF m 9 #[.val (.int p1), .val (.long q2), .second, .val (.long q3), .second, .val (.long q4), .second, .val (.long q5), .second, .val (.long q6), .second, .val (.int (4 : Int32)), .unset, .unset, .unset, .unset] [(.int (4 : Int32))])) t → Steps p.tables e below G t := by
      intro t k
      refine K116 t ?_
      show Steps p.tables e below (s₁.setTop (mkF m 7 #[.val (.int p1), .val (.long q2), .second, .val (.long q3), .second, .val (.long q4), .second, .val (.long q5), .second, .val (.long q6), .second, .val (.int (4 : Int32)), .unset, .unset, .unset, .unset] [])) _
      refine XS.iload X0.here hx rfl (hb hby at_7) rfl ?_
      show Steps p.tables e below (s₁.setTop (mkF m 9 #[.val (.int p1), .val (.long q2), .second, .val (.long q3), .second, .val (.long q4), .second, .val (.long q5), .second, .val (.long q6), .second, .val (.int (4 : Int32)), .unset, .unset, .unset, .unset] [(.int (4 : Int32))])) _
      exact k
    obtain ⟨T118, h118, k118, X118, e118, E118, A118, st118⟩ := newP X0 hx hZ (hw _ (List.mem_of_getElem? (i := 0) rfl)) e0 (g := (mkF m 9 #[.val (.int p1), .val (.long q2), .second, .val (.long q3), .second, .val (.long q4), .second, .val (.long q5), .second, .val (.long q6), .second, .val (.int (4 : Int32)), .unset, .unset, .unset, .unset] [(.int (4 : Int32))])) rfl (hb hby at_9) rfl (by decide) (cap := 4) (by decide) (by decide) (by decide) (by decide)
    obtain ⟨b118, g118⟩ : ∃ z, z = h0.size := ⟨_, rfl⟩
    rw [← g118] at A118 st118
    have g_b118 : n0 ≤ b118 := Nat.le_trans Z0 (Nat.le_of_eq g118.symm)
    have sz_b118 : h0.size ≤ b118 := Nat.le_trans KP0.1 (Nat.le_of_eq g118.symm)
    have Z119 : n0 ≤ h118.size := Nat.le_trans Z0 E118.1
    have KP120 : Keep h0 h118 [] := KP0.ext E118
    have K121 : ∀ t, Steps p.tables e below (T118.setTop (mkF m 11 #[.val (.int p1), .val (.long q2), .second, .val (.long q3), .second, .val (.long q4), .second, .val (.long q5), .second, .val (.long q6), .second, .val (.int (4 : Int32)), .unset, .unset, .unset, .unset] [(.ref b118)])) t → Steps p.tables e below G t := fun t k => K117 t (st118 t k)
    have V118 : Arv Z h118 b118 k118 .long (4 : Int32) [(.long (0 : Int64)), (.long (0 : Int64)), (.long (0 : Int64)), (.long (0 : Int64))] (.long (0 : Int64)) := (Arv.new A118 (by decide)).pad (pad_rep [] (.long (0 : Int64)) 4)
    have K122 : ∀ t, Steps p.tables e below (T118.setTop (mkF m 17 #[.val (.int p1), .val (.long q2), .second, .val (.long q3), .second, .val (.long q4), .second, .val (.long q5), .second, .val (.long q6), .second, .val (.int (4 : Int32)), .val (.ref b118), .unset, .unset, .unset] [(.long q2), (.int (0 : Int32)), (.ref b118)])) t → Steps p.tables e below G t := by
      intro t k
      refine K121 t ?_
      show Steps p.tables e below (T118.setTop (mkF m 11 #[.val (.int p1), .val (.long q2), .second, .val (.long q3), .second, .val (.long q4), .second, .val (.long q5), .second, .val (.long q6), .second, .val (.int (4 : Int32)), .unset, .unset, .unset, .unset] [(.ref b118)])) _
      refine XS.astore X118.here hx rfl (hb hby at_11) rfl rfl (l' := #[.val (.int p1), .val (.long q2), .second, .val (.long q3), .second, .val (.long q4), .second, .val (.long q5), .second, .val (.long q6), .second, .val (.int (4 : Int32)), .val (.ref b118), .unset, .unset, .unset]) rfl ?_
      show Steps p.tables e below (T118.setTop (mkF m 13 #[.val (.int p1), .val (.long q2), .second, .val (.long q3), .second, .val (.long q4), .second, .val (.long q5), .second, .val (.long q6), .second, .val (.int (4 : Int32)), .val (.ref b118), .unset, .unset, .unset] [])) _
      refine XS.aload X118.here hx rfl (hb hby at_13) rfl rfl ?_
      show Steps p.tables e below (T118.setTop (mkF m 15 #[.val (.int p1), .val (.long q2), .second, .val (.long q3), .second, .val (.long q4), .second, .val (.long q5), .second, .val (.long q6), .second, .val (.int (4 : Int32)), .val (.ref b118), .unset, .unset, .unset] [(.ref b118)])) _
      refine XS.iconst X118.here hx rfl (hb hby at_15) ?_
      show Steps p.tables e below (T118.setTop (mkF m 16 #[.val (.int p1), .val (.long q2), .second, .val (.long q3), .second, .val (.long q4), .second, .val (.long q5), .second, .val (.long q6), .second, .val (.int (4 : Int32)), .val (.ref b118), .unset, .unset, .unset] [(.int (0 : Int32)), (.ref b118)])) _
      refine XS.lloadN X118.here hx rfl (hb hby at_16) rfl ?_
      show Steps p.tables e below (T118.setTop (mkF m 17 #[.val (.int p1), .val (.long q2), .second, .val (.long q3), .second, .val (.long q4), .second, .val (.long q5), .second, .val (.long q6), .second, .val (.int (4 : Int32)), .val (.ref b118), .unset, .unset, .unset] [(.long q2), (.int (0 : Int32)), (.ref b118)])) _
      exact k
    obtain ⟨cl123, Ar123, q123, S123, M123, Ha123, Ga123⟩ := id V118
    have hin123 : ¬ ((0 : Int32) < 0 ∨ cl123.slots.size ≤ ((0 : Int32)).toNatClampNeg) := inb_of S123 ⟨by decide, by decide⟩
    obtain ⟨T123, h123, X123, e123, W123, st123⟩ := stJ X118 hx hZ e118 Ar123 (j := (0 : Int32)) hin123 (g := (mkF m 17 #[.val (.int p1), .val (.long q2), .second, .val (.long q3), .second, .val (.long q4), .second, .val (.long q5), .second, .val (.long q6), .second, .val (.int (4 : Int32)), .val (.ref b118), .unset, .unset, .unset] [(.long q2), (.int (0 : Int32)), (.ref b118)])) rfl rfl (hb hby at_17)
    have V123 : Arv Z h123 b118 k118 .long (4 : Int32) [(.long q2), (.long (0 : Int64)), (.long (0 : Int64)), (.long (0 : Int64))] (.long (0 : Int64)) := Arv.set Ar123 q123 S123 M123 Ha123 Ga123 rfl W123 0 rfl (Nat.le_of_ble_eq_true rfl)
    have K124 : ∀ t, Steps p.tables e below (T123.setTop (mkF m 18 #[.val (.int p1), .val (.long q2), .second, .val (.long q3), .second, .val (.long q4), .second, .val (.long q5), .second, .val (.long q6), .second, .val (.int (4 : Int32)), .val (.ref b118), .unset, .unset, .unset] [])) t → Steps p.tables e below G t := fun t k => K122 t (st123 t k)
    have Z125 : n0 ≤ h123.size := Nat.le_trans Z119 (Keep.of_wr W123).1
    have KP126 : Keep h0 h123 [] := KP120.wr W123 (Or.inr sz_b118)
    have N127 := Fr.snoc X123 N0 g_b118
    have K128 : ∀ t, Steps p.tables e below (T123.setTop (mkF m 28 #[.val (.int p1), .val (.long q2), .second, .val (.long q3), .second, .val (.long q4), .second, .val (.long q5), .second, .val (.long q6), .second, .val (.int (4 : Int32)), .val (.ref b118), .unset, .unset, .unset] [(.long q3), (.int (1 : Int32)), (.ref b118)])) t → Steps p.tables e below G t := by
      intro t k
      refine K124 t ?_
      show Steps p.tables e below (T123.setTop (mkF m 18 #[.val (.int p1), .val (.long q2), .second, .val (.long q3), .second, .val (.long q4), .second, .val (.long q5), .second, .val (.long q6), .second, .val (.int (4 : Int32)), .val (.ref b118), .unset, .unset, .unset] [])) _
      refine XS.iload X123.here hx rfl (hb hby at_18) rfl ?_
      show Steps p.tables e below (T123.setTop (mkF m 20 #[.val (.int p1), .val (.long q2), .second, .val (.long q3), .second, .val (.long q4), .second, .val (.long q5), .second, .val (.long q6), .second, .val (.int (4 : Int32)), .val (.ref b118), .unset, .unset, .unset] [(.int (4 : Int32))])) _
      refine XS.iconst X123.here hx rfl (hb hby at_20) ?_
      show Steps p.tables e below (T123.setTop (mkF m 21 #[.val (.int p1), .val (.long q2), .second, .val (.long q3), .second, .val (.long q4), .second, .val (.long q5), .second, .val (.long q6), .second, .val (.int (4 : Int32)), .val (.ref b118), .unset, .unset, .unset] [(.int (1 : Int32)), (.int (4 : Int32))])) _
      refine XS.icmpNo X123.here hx rfl (hb hby at_21) rfl (tlt (by decide)).2.2.2 ?_
      show Steps p.tables e below (T123.setTop (mkF m 24 #[.val (.int p1), .val (.long q2), .second, .val (.long q3), .second, .val (.long q4), .second, .val (.long q5), .second, .val (.long q6), .second, .val (.int (4 : Int32)), .val (.ref b118), .unset, .unset, .unset] [])) _
      refine XS.aload X123.here hx rfl (hb hby at_24) rfl rfl ?_
      show Steps p.tables e below (T123.setTop (mkF m 26 #[.val (.int p1), .val (.long q2), .second, .val (.long q3), .second, .val (.long q4), .second, .val (.long q5), .second, .val (.long q6), .second, .val (.int (4 : Int32)), .val (.ref b118), .unset, .unset, .unset] [(.ref b118)])) _
      refine XS.iconst X123.here hx rfl (hb hby at_26) ?_
      show Steps p.tables e below (T123.setTop (mkF m 27 #[.val (.int p1), .val (.long q2), .second, .val (.long q3), .second, .val (.long q4), .second, .val (.long q5), .second, .val (.long q6), .second, .val (.int (4 : Int32)), .val (.ref b118), .unset, .unset, .unset] [(.int (1 : Int32)), (.ref b118)])) _
      refine XS.lloadN X123.here hx rfl (hb hby at_27) rfl ?_
      show Steps p.tables e below (T123.setTop (mkF m 28 #[.val (.int p1), .val (.long q2), .second, .val (.long q3), .second, .val (.long q4), .second, .val (.long q5), .second, .val (.long q6), .second, .val (.int (4 : Int32)), .val (.ref b118), .unset, .unset, .unset] [(.long q3), (.int (1 : Int32)), (.ref b118)])) _
      exact k
    obtain ⟨cl129, Ar129, q129, S129, M129, Ha129, Ga129⟩ := id V123
    have hin129 : ¬ ((1 : Int32) < 0 ∨ cl129.slots.size ≤ ((1 : Int32)).toNatClampNeg) := inb_of S129 ⟨by decide, by decide⟩
    obtain ⟨T129, h129, X129, e129, W129, st129⟩ := stJ X123 hx hZ e123 Ar129 (j := (1 : Int32)) hin129 (g := (mkF m 28 #[.val (.int p1), .val (.long q2), .second, .val (.long q3), .second, .val (.long q4), .second, .val (.long q5), .second, .val (.long q6), .second, .val (.int (4 : Int32)), .val (.ref b118), .unset, .unset, .unset] [(.long q3), (.int (1 : Int32)), (.ref b118)])) rfl rfl (hb hby at_28)
    have V129 : Arv Z h129 b118 k118 .long (4 : Int32) [(.long q2), (.long q3), (.long (0 : Int64)), (.long (0 : Int64))] (.long (0 : Int64)) := Arv.set Ar129 q129 S129 M129 Ha129 Ga129 rfl W129 1 rfl (Nat.le_of_ble_eq_true rfl)
    have K130 : ∀ t, Steps p.tables e below (T129.setTop (mkF m 29 #[.val (.int p1), .val (.long q2), .second, .val (.long q3), .second, .val (.long q4), .second, .val (.long q5), .second, .val (.long q6), .second, .val (.int (4 : Int32)), .val (.ref b118), .unset, .unset, .unset] [])) t → Steps p.tables e below G t := fun t k => K128 t (st129 t k)
    have Z131 : n0 ≤ h129.size := Nat.le_trans Z125 (Keep.of_wr W129).1
    have KP132 : Keep h0 h129 [] := KP126.wr W129 (Or.inr sz_b118)
    have N133 := Fr.snoc X129 N127 g_b118
    have K134 : ∀ t, Steps p.tables e below (T129.setTop (mkF m 40 #[.val (.int p1), .val (.long q2), .second, .val (.long q3), .second, .val (.long q4), .second, .val (.long q5), .second, .val (.long q6), .second, .val (.int (4 : Int32)), .val (.ref b118), .unset, .unset, .unset] [(.long q4), (.int (2 : Int32)), (.ref b118)])) t → Steps p.tables e below G t := by
      intro t k
      refine K130 t ?_
      show Steps p.tables e below (T129.setTop (mkF m 29 #[.val (.int p1), .val (.long q2), .second, .val (.long q3), .second, .val (.long q4), .second, .val (.long q5), .second, .val (.long q6), .second, .val (.int (4 : Int32)), .val (.ref b118), .unset, .unset, .unset] [])) _
      refine XS.iload X129.here hx rfl (hb hby at_29) rfl ?_
      show Steps p.tables e below (T129.setTop (mkF m 31 #[.val (.int p1), .val (.long q2), .second, .val (.long q3), .second, .val (.long q4), .second, .val (.long q5), .second, .val (.long q6), .second, .val (.int (4 : Int32)), .val (.ref b118), .unset, .unset, .unset] [(.int (4 : Int32))])) _
      refine XS.iconst X129.here hx rfl (hb hby at_31) ?_
      show Steps p.tables e below (T129.setTop (mkF m 32 #[.val (.int p1), .val (.long q2), .second, .val (.long q3), .second, .val (.long q4), .second, .val (.long q5), .second, .val (.long q6), .second, .val (.int (4 : Int32)), .val (.ref b118), .unset, .unset, .unset] [(.int (2 : Int32)), (.int (4 : Int32))])) _
      refine XS.icmpNo X129.here hx rfl (hb hby at_32) rfl (tlt (by decide)).2.2.2 ?_
      show Steps p.tables e below (T129.setTop (mkF m 35 #[.val (.int p1), .val (.long q2), .second, .val (.long q3), .second, .val (.long q4), .second, .val (.long q5), .second, .val (.long q6), .second, .val (.int (4 : Int32)), .val (.ref b118), .unset, .unset, .unset] [])) _
      refine XS.aload X129.here hx rfl (hb hby at_35) rfl rfl ?_
      show Steps p.tables e below (T129.setTop (mkF m 37 #[.val (.int p1), .val (.long q2), .second, .val (.long q3), .second, .val (.long q4), .second, .val (.long q5), .second, .val (.long q6), .second, .val (.int (4 : Int32)), .val (.ref b118), .unset, .unset, .unset] [(.ref b118)])) _
      refine XS.iconst X129.here hx rfl (hb hby at_37) ?_
      show Steps p.tables e below (T129.setTop (mkF m 38 #[.val (.int p1), .val (.long q2), .second, .val (.long q3), .second, .val (.long q4), .second, .val (.long q5), .second, .val (.long q6), .second, .val (.int (4 : Int32)), .val (.ref b118), .unset, .unset, .unset] [(.int (2 : Int32)), (.ref b118)])) _
      refine XS.lload X129.here hx rfl (hb hby at_38) rfl ?_
      show Steps p.tables e below (T129.setTop (mkF m 40 #[.val (.int p1), .val (.long q2), .second, .val (.long q3), .second, .val (.long q4), .second, .val (.long q5), .second, .val (.long q6), .second, .val (.int (4 : Int32)), .val (.ref b118), .unset, .unset, .unset] [(.long q4), (.int (2 : Int32)), (.ref b118)])) _
      exact k
    obtain ⟨cl135, Ar135, q135, S135, M135, Ha135, Ga135⟩ := id V129
    have hin135 : ¬ ((2 : Int32) < 0 ∨ cl135.slots.size ≤ ((2 : Int32)).toNatClampNeg) := inb_of S135 ⟨by decide, by decide⟩
    obtain ⟨T135, h135, X135, e135, W135, st135⟩ := stJ X129 hx hZ e129 Ar135 (j := (2 : Int32)) hin135 (g := (mkF m 40 #[.val (.int p1), .val (.long q2), .second, .val (.long q3), .second, .val (.long q4), .second, .val (.long q5), .second, .val (.long q6), .second, .val (.int (4 : Int32)), .val (.ref b118), .unset, .unset, .unset] [(.long q4), (.int (2 : Int32)), (.ref b118)])) rfl rfl (hb hby at_40)
    have V135 : Arv Z h135 b118 k118 .long (4 : Int32) [(.long q2), (.long q3), (.long q4), (.long (0 : Int64))] (.long (0 : Int64)) := Arv.set Ar135 q135 S135 M135 Ha135 Ga135 rfl W135 2 rfl (Nat.le_of_ble_eq_true rfl)
    have K136 : ∀ t, Steps p.tables e below (T135.setTop (mkF m 41 #[.val (.int p1), .val (.long q2), .second, .val (.long q3), .second, .val (.long q4), .second, .val (.long q5), .second, .val (.long q6), .second, .val (.int (4 : Int32)), .val (.ref b118), .unset, .unset, .unset] [])) t → Steps p.tables e below G t := fun t k => K134 t (st135 t k)
    have Z137 : n0 ≤ h135.size := Nat.le_trans Z131 (Keep.of_wr W135).1
    have KP138 : Keep h0 h135 [] := KP132.wr W135 (Or.inr sz_b118)
    have N139 := Fr.snoc X135 N133 g_b118
    have K140 : ∀ t, Steps p.tables e below (T135.setTop (mkF m 52 #[.val (.int p1), .val (.long q2), .second, .val (.long q3), .second, .val (.long q4), .second, .val (.long q5), .second, .val (.long q6), .second, .val (.int (4 : Int32)), .val (.ref b118), .unset, .unset, .unset] [(.long q5), (.int (3 : Int32)), (.ref b118)])) t → Steps p.tables e below G t := by
      intro t k
      refine K136 t ?_
      show Steps p.tables e below (T135.setTop (mkF m 41 #[.val (.int p1), .val (.long q2), .second, .val (.long q3), .second, .val (.long q4), .second, .val (.long q5), .second, .val (.long q6), .second, .val (.int (4 : Int32)), .val (.ref b118), .unset, .unset, .unset] [])) _
      refine XS.iload X135.here hx rfl (hb hby at_41) rfl ?_
      show Steps p.tables e below (T135.setTop (mkF m 43 #[.val (.int p1), .val (.long q2), .second, .val (.long q3), .second, .val (.long q4), .second, .val (.long q5), .second, .val (.long q6), .second, .val (.int (4 : Int32)), .val (.ref b118), .unset, .unset, .unset] [(.int (4 : Int32))])) _
      refine XS.iconst X135.here hx rfl (hb hby at_43) ?_
      show Steps p.tables e below (T135.setTop (mkF m 44 #[.val (.int p1), .val (.long q2), .second, .val (.long q3), .second, .val (.long q4), .second, .val (.long q5), .second, .val (.long q6), .second, .val (.int (4 : Int32)), .val (.ref b118), .unset, .unset, .unset] [(.int (3 : Int32)), (.int (4 : Int32))])) _
      refine XS.icmpNo X135.here hx rfl (hb hby at_44) rfl (tlt (by decide)).2.2.2 ?_
      show Steps p.tables e below (T135.setTop (mkF m 47 #[.val (.int p1), .val (.long q2), .second, .val (.long q3), .second, .val (.long q4), .second, .val (.long q5), .second, .val (.long q6), .second, .val (.int (4 : Int32)), .val (.ref b118), .unset, .unset, .unset] [])) _
      refine XS.aload X135.here hx rfl (hb hby at_47) rfl rfl ?_
      show Steps p.tables e below (T135.setTop (mkF m 49 #[.val (.int p1), .val (.long q2), .second, .val (.long q3), .second, .val (.long q4), .second, .val (.long q5), .second, .val (.long q6), .second, .val (.int (4 : Int32)), .val (.ref b118), .unset, .unset, .unset] [(.ref b118)])) _
      refine XS.iconst X135.here hx rfl (hb hby at_49) ?_
      show Steps p.tables e below (T135.setTop (mkF m 50 #[.val (.int p1), .val (.long q2), .second, .val (.long q3), .second, .val (.long q4), .second, .val (.long q5), .second, .val (.long q6), .second, .val (.int (4 : Int32)), .val (.ref b118), .unset, .unset, .unset] [(.int (3 : Int32)), (.ref b118)])) _
      refine XS.lload X135.here hx rfl (hb hby at_50) rfl ?_
      show Steps p.tables e below (T135.setTop (mkF m 52 #[.val (.int p1), .val (.long q2), .second, .val (.long q3), .second, .val (.long q4), .second, .val (.long q5), .second, .val (.long q6), .second, .val (.int (4 : Int32)), .val (.ref b118), .unset, .unset, .unset] [(.long q5), (.int (3 : Int32)), (.ref b118)])) _
      exact k
    obtain ⟨cl141, Ar141, q141, S141, M141, Ha141, Ga141⟩ := id V135
    have hin141 : ¬ ((3 : Int32) < 0 ∨ cl141.slots.size ≤ ((3 : Int32)).toNatClampNeg) := inb_of S141 ⟨by decide, by decide⟩
    obtain ⟨T141, h141, X141, e141, W141, st141⟩ := stJ X135 hx hZ e135 Ar141 (j := (3 : Int32)) hin141 (g := (mkF m 52 #[.val (.int p1), .val (.long q2), .second, .val (.long q3), .second, .val (.long q4), .second, .val (.long q5), .second, .val (.long q6), .second, .val (.int (4 : Int32)), .val (.ref b118), .unset, .unset, .unset] [(.long q5), (.int (3 : Int32)), (.ref b118)])) rfl rfl (hb hby at_52)
    have V141 : Arv Z h141 b118 k118 .long (4 : Int32) [(.long q2), (.long q3), (.long q4), (.long q5)] (.long (0 : Int64)) := Arv.set Ar141 q141 S141 M141 Ha141 Ga141 rfl W141 3 rfl (Nat.le_of_ble_eq_true rfl)
    have K142 : ∀ t, Steps p.tables e below (T141.setTop (mkF m 53 #[.val (.int p1), .val (.long q2), .second, .val (.long q3), .second, .val (.long q4), .second, .val (.long q5), .second, .val (.long q6), .second, .val (.int (4 : Int32)), .val (.ref b118), .unset, .unset, .unset] [])) t → Steps p.tables e below G t := fun t k => K140 t (st141 t k)
    have Z143 : n0 ≤ h141.size := Nat.le_trans Z137 (Keep.of_wr W141).1
    have KP144 : Keep h0 h141 [] := KP138.wr W141 (Or.inr sz_b118)
    have N145 := Fr.snoc X141 N139 g_b118
    have K146 : ∀ t, Steps p.tables e below (T141.setTop (mkF m 94 #[.val (.int p1), .val (.long q2), .second, .val (.long q3), .second, .val (.long q4), .second, .val (.long q5), .second, .val (.long q6), .second, .val (.int (4 : Int32)), .val (.ref b118), .val (.long q5), .second, .unset] [])) t → Steps p.tables e below G t := by
      intro t k
      refine K142 t ?_
      show Steps p.tables e below (T141.setTop (mkF m 53 #[.val (.int p1), .val (.long q2), .second, .val (.long q3), .second, .val (.long q4), .second, .val (.long q5), .second, .val (.long q6), .second, .val (.int (4 : Int32)), .val (.ref b118), .unset, .unset, .unset] [])) _
      refine XS.iload X141.here hx rfl (hb hby at_53) rfl ?_
      show Steps p.tables e below (T141.setTop (mkF m 55 #[.val (.int p1), .val (.long q2), .second, .val (.long q3), .second, .val (.long q4), .second, .val (.long q5), .second, .val (.long q6), .second, .val (.int (4 : Int32)), .val (.ref b118), .unset, .unset, .unset] [(.int (4 : Int32))])) _
      refine XS.iconst X141.here hx rfl (hb hby at_55) ?_
      show Steps p.tables e below (T141.setTop (mkF m 56 #[.val (.int p1), .val (.long q2), .second, .val (.long q3), .second, .val (.long q4), .second, .val (.long q5), .second, .val (.long q6), .second, .val (.int (4 : Int32)), .val (.ref b118), .unset, .unset, .unset] [(.int (1 : Int32)), (.int (4 : Int32))])) _
      refine XS.icmpYes X141.here hx rfl (pc0 := 56) (pc' := 65) rfl (hb hby at_56) rfl (feq (by decide)).2 (by decide) (by decide) ?_
      show Steps p.tables e below (T141.setTop (mkF m 65 #[.val (.int p1), .val (.long q2), .second, .val (.long q3), .second, .val (.long q4), .second, .val (.long q5), .second, .val (.long q6), .second, .val (.int (4 : Int32)), .val (.ref b118), .unset, .unset, .unset] [])) _
      refine XS.iload X141.here hx rfl (hb hby at_65) rfl ?_
      show Steps p.tables e below (T141.setTop (mkF m 67 #[.val (.int p1), .val (.long q2), .second, .val (.long q3), .second, .val (.long q4), .second, .val (.long q5), .second, .val (.long q6), .second, .val (.int (4 : Int32)), .val (.ref b118), .unset, .unset, .unset] [(.int (4 : Int32))])) _
      refine XS.iconst X141.here hx rfl (hb hby at_67) ?_
      show Steps p.tables e below (T141.setTop (mkF m 68 #[.val (.int p1), .val (.long q2), .second, .val (.long q3), .second, .val (.long q4), .second, .val (.long q5), .second, .val (.long q6), .second, .val (.int (4 : Int32)), .val (.ref b118), .unset, .unset, .unset] [(.int (2 : Int32)), (.int (4 : Int32))])) _
      refine XS.icmpYes X141.here hx rfl (pc0 := 68) (pc' := 77) rfl (hb hby at_68) rfl (feq (by decide)).2 (by decide) (by decide) ?_
      show Steps p.tables e below (T141.setTop (mkF m 77 #[.val (.int p1), .val (.long q2), .second, .val (.long q3), .second, .val (.long q4), .second, .val (.long q5), .second, .val (.long q6), .second, .val (.int (4 : Int32)), .val (.ref b118), .unset, .unset, .unset] [])) _
      refine XS.iload X141.here hx rfl (hb hby at_77) rfl ?_
      show Steps p.tables e below (T141.setTop (mkF m 79 #[.val (.int p1), .val (.long q2), .second, .val (.long q3), .second, .val (.long q4), .second, .val (.long q5), .second, .val (.long q6), .second, .val (.int (4 : Int32)), .val (.ref b118), .unset, .unset, .unset] [(.int (4 : Int32))])) _
      refine XS.iconst X141.here hx rfl (hb hby at_79) ?_
      show Steps p.tables e below (T141.setTop (mkF m 80 #[.val (.int p1), .val (.long q2), .second, .val (.long q3), .second, .val (.long q4), .second, .val (.long q5), .second, .val (.long q6), .second, .val (.int (4 : Int32)), .val (.ref b118), .unset, .unset, .unset] [(.int (3 : Int32)), (.int (4 : Int32))])) _
      refine XS.icmpYes X141.here hx rfl (pc0 := 80) (pc' := 90) rfl (hb hby at_80) rfl (feq (by decide)).2 (by decide) (by decide) ?_
      show Steps p.tables e below (T141.setTop (mkF m 90 #[.val (.int p1), .val (.long q2), .second, .val (.long q3), .second, .val (.long q4), .second, .val (.long q5), .second, .val (.long q6), .second, .val (.int (4 : Int32)), .val (.ref b118), .unset, .unset, .unset] [])) _
      refine XS.lload X141.here hx rfl (hb hby at_90) rfl ?_
      show Steps p.tables e below (T141.setTop (mkF m 92 #[.val (.int p1), .val (.long q2), .second, .val (.long q3), .second, .val (.long q4), .second, .val (.long q5), .second, .val (.long q6), .second, .val (.int (4 : Int32)), .val (.ref b118), .unset, .unset, .unset] [(.long q5)])) _
      refine XS.lstore X141.here hx rfl (hb hby at_92) rfl (l' := #[.val (.int p1), .val (.long q2), .second, .val (.long q3), .second, .val (.long q4), .second, .val (.long q5), .second, .val (.long q6), .second, .val (.int (4 : Int32)), .val (.ref b118), .val (.long q5), .second, .unset]) rfl ?_
      show Steps p.tables e below (T141.setTop (mkF m 94 #[.val (.int p1), .val (.long q2), .second, .val (.long q3), .second, .val (.long q4), .second, .val (.long q5), .second, .val (.long q6), .second, .val (.int (4 : Int32)), .val (.ref b118), .val (.long q5), .second, .unset] [])) _
      exact k
    obtain ⟨T147, h147, X147, e147, E147, A147, D147, -, st147⟩ := newO X141 hx hZ hown (hw _ (List.mem_of_getElem? (i := 1) rfl)) (hw _ (List.mem_of_getElem? (i := 2) rfl)) (hw _ (List.mem_of_getElem? (i := 3) rfl)) e141 (g := (mkF m 94 #[.val (.int p1), .val (.long q2), .second, .val (.long q3), .second, .val (.long q4), .second, .val (.long q5), .second, .val (.long q6), .second, .val (.int (4 : Int32)), .val (.ref b118), .val (.long q5), .second, .unset] [])) rfl (hb hby at_94) (by decide) (by decide)
    obtain ⟨b147, g147⟩ : ∃ z, z = h141.size := ⟨_, rfl⟩
    rw [← g147] at A147 D147 st147
    have ne_b118_b147 : b118 ≠ b147 := Nat.ne_of_lt (Nat.lt_of_lt_of_le V141.lt (Nat.le_of_eq g147.symm))
    have g_b147 : n0 ≤ b147 := Nat.le_trans Z143 (Nat.le_of_eq g147.symm)
    have sz_b147 : h0.size ≤ b147 := Nat.le_trans KP144.1 (Nat.le_of_eq g147.symm)
    have f148 := V141.ext E147
    have Z149 : n0 ≤ h147.size := Nat.le_trans Z143 E147.1
    have KP150 : Keep h0 h147 [] := KP144.ext E147
    have K151 : ∀ t, Steps p.tables e below (T147.setTop (mkF m 97 #[.val (.int p1), .val (.long q2), .second, .val (.long q3), .second, .val (.long q4), .second, .val (.long q5), .second, .val (.long q6), .second, .val (.int (4 : Int32)), .val (.ref b118), .val (.long q5), .second, .unset] [(.ref b147)])) t → Steps p.tables e below G t := fun t k => K146 t (st147 t k)
    have f152 : Fld Z h147 b147 "com/example/conq/conq/model/Histogram$Read" "cumulative" "[J" .null := D147 (Or.inr (hw _ (List.mem_of_getElem? (i := 11) rfl))) (ty := (.array .long)) (by decide)
    have f153 : Fld Z h147 b147 "com/example/conq/conq/model/Histogram$Read" "sum" "J" (.long (0 : Int64)) := D147 (Or.inr (hw _ (List.mem_of_getElem? (i := 13) rfl))) (ty := .long) (by decide)
    have K154 : ∀ t, Steps p.tables e below (T147.setTop (mkF m 102 #[.val (.int p1), .val (.long q2), .second, .val (.long q3), .second, .val (.long q4), .second, .val (.long q5), .second, .val (.long q6), .second, .val (.int (4 : Int32)), .val (.ref b118), .val (.long q5), .second, .unset] [(.long q6), (.ref b118), (.ref b147), (.ref b147)])) t → Steps p.tables e below G t := by
      intro t k
      refine K151 t ?_
      show Steps p.tables e below (T147.setTop (mkF m 97 #[.val (.int p1), .val (.long q2), .second, .val (.long q3), .second, .val (.long q4), .second, .val (.long q5), .second, .val (.long q6), .second, .val (.int (4 : Int32)), .val (.ref b118), .val (.long q5), .second, .unset] [(.ref b147)])) _
      refine XS.dup X147.here hx rfl (hb hby at_97) rfl rfl ?_
      show Steps p.tables e below (T147.setTop (mkF m 98 #[.val (.int p1), .val (.long q2), .second, .val (.long q3), .second, .val (.long q4), .second, .val (.long q5), .second, .val (.long q6), .second, .val (.int (4 : Int32)), .val (.ref b118), .val (.long q5), .second, .unset] [(.ref b147), (.ref b147)])) _
      refine XS.aload X147.here hx rfl (hb hby at_98) rfl rfl ?_
      show Steps p.tables e below (T147.setTop (mkF m 100 #[.val (.int p1), .val (.long q2), .second, .val (.long q3), .second, .val (.long q4), .second, .val (.long q5), .second, .val (.long q6), .second, .val (.int (4 : Int32)), .val (.ref b118), .val (.long q5), .second, .unset] [(.ref b118), (.ref b147), (.ref b147)])) _
      refine XS.lload X147.here hx rfl (hb hby at_100) rfl ?_
      show Steps p.tables e below (T147.setTop (mkF m 102 #[.val (.int p1), .val (.long q2), .second, .val (.long q3), .second, .val (.long q4), .second, .val (.long q5), .second, .val (.long q6), .second, .val (.int (4 : Int32)), .val (.ref b118), .val (.long q5), .second, .unset] [(.long q6), (.ref b118), (.ref b147), (.ref b147)])) _
      exact k
    obtain ⟨_, _, ⟨T155, L155, k155, n155⟩, -, X155, ⟨Lc155, hQ155, l155, y155, z155⟩, st155⟩ := X147.specialBack hx (y := (⟨"com/example/conq/conq/model/Histogram$Read", "<init>", "([JJ)V"⟩ : MethodName)) rfl hown (mvT hZ (hw _ (List.mem_of_getElem? (i := 4) rfl))) (mvT hZ (hw _ (List.mem_of_getElem? (i := 5) rfl))) (mvT hZ (hw _ (List.mem_of_getElem? (i := 6) rfl))) (by decide) (backOf (W := 1) (rm1 l Z a0 hw [] b147 b118 q6 h147 n0 Z149 A147 f152 f153 g_b147) hZ (hw _ (List.mem_of_getElem? (i := 6) rfl)) (hw _ (List.mem_of_getElem? (i := 3) rfl)) (by decide) (by decide)) (g := (mkF m 102 #[.val (.int p1), .val (.long q2), .second, .val (.long q3), .second, .val (.long q4), .second, .val (.long q5), .second, .val (.long q6), .second, .val (.int (4 : Int32)), .val (.ref b118), .val (.long q5), .second, .unset] [(.long q6), (.ref b118), (.ref b147), (.ref b147)])) rfl (by rw [hml]; rfl) (Steps.refl _) (a := b147) (argsL := [(.ref b118), (.long q6)]) (rest := [(.ref b147)]) (lenOf pd_0 rfl) rfl (by show 2 * 0 + _ ≤ _; exact Nat.le_of_eq rfl) (hb hby at_102) (fun _ _ => ⟨rfl, e147, (by decide : 2 + 0 ≤ _), (by decide : 6 + 0 ≤ _)⟩)
    dsimp only [Pt.U, Pt.locs, Pt.cells, Pt.slots] at X155 l155 y155 z155 st155 hQ155
    subst l155 y155 z155
    obtain ⟨rfl, Nq155, K155, E155', Fc155⟩ := hQ155
    have N156 := Fr.app N145 Nq155
    have f157 := f148.keep K155 (ninS ne_b118_b147 nin0)
    have f158 := A147.keep K155
    have Z159 : n0 ≤ T155.heap.size := Nat.le_trans Z149 K155.1
    have KP160 : Keep h0 T155.heap [] := KP150.trans K155 (allS (Or.inr sz_b147) all0)
    have K161 : ∀ t, Steps p.tables e below (T155.setTop (mkF m 105 #[.val (.int p1), .val (.long q2), .second, .val (.long q3), .second, .val (.long q4), .second, .val (.long q5), .second, .val (.long q6), .second, .val (.int (4 : Int32)), .val (.ref b118), .val (.long q5), .second, .unset] [(.ref b147)])) t → Steps p.tables e below G t := fun t k => K154 t (st155.trans k)
    have K162 : ∀ t, Steps p.tables e below (T155.setTop (mkF m 109 #[.val (.int p1), .val (.long q2), .second, .val (.long q3), .second, .val (.long q4), .second, .val (.long q5), .second, .val (.long q6), .second, .val (.int (4 : Int32)), .val (.ref b118), .val (.long q5), .second, .val (.ref b147)] [(.ref b147)])) t → Steps p.tables e below G t := by
      intro t k
      refine K161 t ?_
      show Steps p.tables e below (T155.setTop (mkF m 105 #[.val (.int p1), .val (.long q2), .second, .val (.long q3), .second, .val (.long q4), .second, .val (.long q5), .second, .val (.long q6), .second, .val (.int (4 : Int32)), .val (.ref b118), .val (.long q5), .second, .unset] [(.ref b147)])) _
      refine XS.astore X155.here hx rfl (hb hby at_105) rfl rfl (l' := #[.val (.int p1), .val (.long q2), .second, .val (.long q3), .second, .val (.long q4), .second, .val (.long q5), .second, .val (.long q6), .second, .val (.int (4 : Int32)), .val (.ref b118), .val (.long q5), .second, .val (.ref b147)]) rfl ?_
      show Steps p.tables e below (T155.setTop (mkF m 107 #[.val (.int p1), .val (.long q2), .second, .val (.long q3), .second, .val (.long q4), .second, .val (.long q5), .second, .val (.long q6), .second, .val (.int (4 : Int32)), .val (.ref b118), .val (.long q5), .second, .val (.ref b147)] [])) _
      refine XS.aload X155.here hx rfl (hb hby at_107) rfl rfl ?_
      show Steps p.tables e below (T155.setTop (mkF m 109 #[.val (.int p1), .val (.long q2), .second, .val (.long q3), .second, .val (.long q4), .second, .val (.long q5), .second, .val (.long q6), .second, .val (.int (4 : Int32)), .val (.ref b118), .val (.long q5), .second, .val (.ref b147)] [(.ref b147)])) _
      exact k
    obtain ⟨cq163, kq163, q163a, q163b, q163c⟩ := isOf hZ rfl E155'
    obtain ⟨_, _, ⟨T163, L163, k163, n163⟩, -, X163, ⟨Lc163, hQ163, l163, y163, z163⟩, st163⟩ := X155.virtualBack hx (y := (⟨"com/example/conq/conq/model/Histogram$Read", "getCount", "()J"⟩ : MethodName)) (z := (⟨"com/example/conq/conq/model/Histogram$Read", "getCount", "()J"⟩ : MethodName)) hown (mvT hZ (hw _ (List.mem_of_getElem? (i := 14) rfl))) (mvT hZ (hw _ (List.mem_of_getElem? (i := 15) rfl))) (notFace_of_selects (args := #[]) (mvT hZ (hw _ (List.mem_of_getElem? (i := 17) rfl)))) (mvT hZ (hw _ (List.mem_of_getElem? (i := 17) rfl))) (mvT hZ (hw _ (List.mem_of_getElem? (i := 16) rfl))) (by decide) (backOf (W := 0) (rm3 l Z a0 hw [] b147 b118 k118 (4 : Int32) [(.long q2), (.long q3), (.long q4), (.long q5)] q5 T155.heap n0 Z159 Fc155 f157 ⟨by decide, by decide⟩ rfl) hZ (hw _ (List.mem_of_getElem? (i := 18) rfl)) (hw _ (List.mem_of_getElem? (i := 3) rfl)) (by decide) (by decide)) q163a q163c (g := (mkF m 109 #[.val (.int p1), .val (.long q2), .second, .val (.long q3), .second, .val (.long q4), .second, .val (.long q5), .second, .val (.long q6), .second, .val (.int (4 : Int32)), .val (.ref b118), .val (.long q5), .second, .val (.ref b147)] [(.ref b147)])) rfl (by rw [hml]; rfl) (Steps.refl _) (argsL := []) (rest := []) (lenOf pd_1 rfl) rfl (by show 2 * 0 + _ ≤ _; exact Nat.le_of_eq rfl) (hb hby at_109) (fun _ _ => ⟨rfl, rfl, (by decide : 2 + 0 ≤ _), (by decide : 6 + 0 ≤ _)⟩)
    dsimp only [Pt.U, Pt.locs, Pt.cells, Pt.slots] at X163 l163 y163 z163 st163 hQ163
    subst l163 y163 z163
    obtain ⟨rfl, Nq163, e163⟩ := hQ163
    have N164 := Fr.app N156 Nq163
    have K165 : ∀ t, Steps p.tables e below (T163.setTop (mkF m 112 #[.val (.int p1), .val (.long q2), .second, .val (.long q3), .second, .val (.long q4), .second, .val (.long q5), .second, .val (.long q6), .second, .val (.int (4 : Int32)), .val (.ref b118), .val (.long q5), .second, .val (.ref b147)] [(.long q5)])) t → Steps p.tables e below G t := fun t k => K162 t (st163.trans k)
    obtain ⟨fs, hr, hrun, hended, hW, hsame⟩ := X163.leave (v := some (.int (1 : Int32))) (fun h => by rw [Bd.returns] at h; cases h)
    have KF := K165
    rw [hG] at KF
    refine ⟨_, _, KF _ ?_, hrun, hended, _, _, rfl, ?_, ⟨_, rfl⟩, hW, hsame.mono (by decide) (by decide)⟩
    · show Steps p.tables e below (T163.setTop (mkF m 112 #[.val (.int p1), .val (.long q2), .second, .val (.long q3), .second, .val (.long q4), .second, .val (.long q5), .second, .val (.long q6), .second, .val (.int (4 : Int32)), .val (.ref b118), .val (.long q5), .second, .val (.ref b147)] [(.long q5)])) _
      refine XS.lload X163.here hx rfl (hb hby at_112) rfl ?_
      show Steps p.tables e below (T163.setTop (mkF m 114 #[.val (.int p1), .val (.long q2), .second, .val (.long q3), .second, .val (.long q4), .second, .val (.long q5), .second, .val (.long q6), .second, .val (.int (4 : Int32)), .val (.ref b118), .val (.long q5), .second, .val (.ref b147)] [(.long q5), (.long q5)])) _
      refine XS.lcmp X163.here hx rfl (hb hby at_114) rfl ?_
      show Steps p.tables e below (T163.setTop (mkF m 115 #[.val (.int p1), .val (.long q2), .second, .val (.long q3), .second, .val (.long q4), .second, .val (.long q5), .second, .val (.long q6), .second, .val (.int (4 : Int32)), .val (.ref b118), .val (.long q5), .second, .val (.ref b147)] [(.int (lcmpW q5 q5))])) _
      refine XS.ifNo X163.here hx rfl (hb hby at_115) rfl ((if0 _ _).trans (teq ((lw_eq q5 q5).mpr (rfl : q5 = q5))).2) ?_
      show Steps p.tables e below (T163.setTop (mkF m 118 #[.val (.int p1), .val (.long q2), .second, .val (.long q3), .second, .val (.long q4), .second, .val (.long q5), .second, .val (.long q6), .second, .val (.int (4 : Int32)), .val (.ref b118), .val (.long q5), .second, .val (.ref b147)] [])) _
      refine XS.iconst X163.here hx rfl (hb hby at_118) ?_
      show Steps p.tables e below (T163.setTop (mkF m 119 #[.val (.int p1), .val (.long q2), .second, .val (.long q3), .second, .val (.long q4), .second, .val (.long q5), .second, .val (.long q6), .second, .val (.int (4 : Int32)), .val (.ref b118), .val (.long q5), .second, .val (.ref b147)] [(.int (1 : Int32))])) _
      refine XS.goto X163.here hx rfl (pc0 := 119) (pc' := 123) rfl (hb hby at_119) (by decide) (by decide) ?_
      show Steps p.tables e below (T163.setTop (mkF m 123 #[.val (.int p1), .val (.long q2), .second, .val (.long q3), .second, .val (.long q4), .second, .val (.long q5), .second, .val (.long q6), .second, .val (.int (4 : Int32)), .val (.ref b118), .val (.long q5), .second, .val (.ref b147)] [(.int (1 : Int32))])) _
      exact retN X163 hx (t := .boolean) Bd.returns (by simp) (hb hby at_123) hr
    · show Q0 n0 _ T163.heap _
      rw [e163]
      exact ⟨rfl, N164⟩
set_option maxRecDepth 65536 in
set_option maxHeartbeats 40000000 in
theorem comes_1 {Post : Tables → Env → Array Value → State → Outcome → State → Prop} (hpost : ∀ tb e args s v u, (limb_1_1.after args s (.returned v) u = true ∧ limb_1_2.after args s (.returned v) u = true ∧ True) → FrameEnd s (.returned v) u (Jvm.fieldLocs frame_1_writes args s ++ Jvm.arrayLocs frame_1_arrays args s ++ Jvm.staticLocs frame_1_statics s) 16 128 → Post tb e args s (.returned v) u) :
    ArmFor flags0 classFile x code maxLocals ret World_1 tables_1 room_1 Calls_1 rest_1 Pre_1 Post := by
  intro l hfl _ _ p e ha hc hk s m args below hf hA hF happ hP
  obtain ⟨hcalls, hrest, hpre⟩ := hP
  obtain ⟨-, -, -, hnamed, -, -, -, hat⟩ := (Spec.applies_iff hf).mp happ
  obtain ⟨hg, hn⟩ := and_e (Cond.before_iff.mp (show (Jvm.Cond.and given_1 narrow_1).before args s = true from hpre))
  obtain ⟨gc, gr0⟩ := and_e hg
  obtain ⟨ga0, gr1⟩ := and_e gr0
  obtain ⟨ga1, gr2⟩ := and_e gr1
  obtain ⟨ga2, gr3⟩ := and_e gr2
  obtain ⟨ga3, gr4⟩ := and_e gr3
  obtain ⟨ga4, gr5⟩ := and_e gr4
  have ga5 := gr5
  obtain ⟨w0, w1, w2, w3, w4, w5, rfl⟩ : ∃ w0 w1 w2 w3 w4 w5 : Value, args = #[w0, w1, w2, w3, w4, w5] := by
    have hs : args.size = 6 := by simpa [Cond.value, given_1] using gc
    obtain ⟨L⟩ := args
    match L, hs with
    | [w0, w1, w2, w3, w4, w5], _ => exact ⟨w0, w1, w2, w3, w4, w5, rfl⟩
  have hw := fun d (hd : d ∈ tables_1) => atoms_spec (ws := Jvm.Cond.code x code maxLocals ret :: tables_1) hat d (List.mem_cons_of_mem _ hd)
  have hfit : Fit s := fun {y c} hc i hi => by
    obtain ⟨ha, rfl⟩ := Array.getElem?_eq_some_iff.mp hc
    have q := List.all_eq_true.mp ((Array.all_eq_true_iff_forall_mem.mp hF) _ (Array.getElem_mem ha)) i (List.mem_range.mpr hi)
    simpa [Array.getElem?_eq_getElem hi] using q
  obtain ⟨i0, ei0⟩ := is_v ga0
  obtain rfl : w0 = (.int i0) := Option.some.inj ei0
  obtain ⟨i1, ei1⟩ := isL_v ga1
  obtain rfl : w1 = (.long i1) := Option.some.inj ei1
  obtain ⟨i2, ei2⟩ := isL_v ga2
  obtain rfl : w2 = (.long i2) := Option.some.inj ei2
  obtain ⟨i3, ei3⟩ := isL_v ga3
  obtain rfl : w3 = (.long i3) := Option.some.inj ei3
  obtain ⟨i4, ei4⟩ := isL_v ga4
  obtain rfl : w4 = (.long i4) := Option.some.inj ei4
  obtain ⟨i5, ei5⟩ := isL_v ga5
  obtain rfl : w5 = (.long i5) := Option.some.inj ei5
  obtain ⟨n, o, h1, h2, h3, _, L, rfl, ⟨rfl, N⟩, hq⟩ := rm0 l s _ hw tables_1 i0 i1 i2 i3 i4 i5  s.heap s.heap.size (Nat.le_refl _)  p e ha hc hk s m _ below hf ((Spec.applies_iff_loose hf).mp happ).1 ⟨rfl, State.Warmed39.refl s, rfl⟩ trivial
  refine ⟨n, _, h1, h2, h3, hpost _ _ _ _ _ _ ⟨Cond.after_iff.mpr rfl, Cond.after_iff.mpr (eq_i res_at (Term.int_eval (1)) rfl), trivial⟩ ⟨hq.1, hq.2.1, (hq.2.2.sift fun y hy => Or.inr (N y hy)).mono (by decide) (by decide)⟩⟩
theorem main_1_1 : Claimed_1_1 := comes_1 fun _ _ _ _ _ _ h hF => ⟨h.1, hF⟩
theorem main_1_2 : Claimed_1_2 := comes_1 fun _ _ _ _ _ _ h hF => ⟨h.2.1, hF⟩
end Jvm.Pilot.@@N@@
namespace Jvm.Pilot.@@N@@
open Jvm Jvm.ClassFile Sem Op Lib Jvm.Free Jvm.Stand Jvm.Pilot.@@N@@.Jvm.D
/-! MADE BY PROGRAM (witnessworld.py) out of the Statement's table words and the real class files: 11 classes; the members and pool entries that the words name. The judged class is class 1, her method 1. -/
namespace start1
open Jvm.ClassFile
def u (s : String) : CpInfo := .utf8 (stringToUtf16 s)
/-- a pool by its gaps: so many unusable entries, then the entry; so many at the end -/
def gap : Nat → List CpInfo → List CpInfo
  | 0, r => r
  | n + 1, r => .unusable :: gap n r
def poolList (es : List (Nat × CpInfo)) (last : Nat) : List CpInfo := es.foldr (fun e r => gap e.1 (e.2 :: r)) (gap last [])
def pool (es : List (Nat × CpInfo)) (last : Nat) : Array CpInfo := ⟨poolList es last⟩
def fileOf (pool : Array CpInfo) (this : Nat) (attrs : Array Attribute := #[]) (ms : Array MethodInfo := #[]) (fl : Nat := 33) (sup : Nat := 0) (ifs : Array Nat := #[]) (fds : Array FieldInfo := #[]) : ClassFile where
  minorVersion := 0
  majorVersion := 65
  constantPool := pool
  accessFlags := fl
  thisClass := this
  superClass := sup
  interfaces := ifs
  fields := fds
  methods := ms
  attributes := attrs
def plain (name : String) (sup : Option ClassId) : Class where
  name := name
  kind := .ordinary
  loader := none
  accessFlags := 33
  super := sup
  interfaces := #[]
  cf := none
  fields := #[]
  methods := #[]
  instanceTypes := #[]
  staticTypes := #[]
  resolved := #[]
  callSites := []
  init := .initialized
  statics := none
  mirror := none

def pool0 : Array CpInfo := pool [(5, u "<init>"), (0, u "()V"), (1, .class_ 10), (1, u "java/lang/Object")] 113

def k0c0 : Code := { maxStack := 0, maxLocals := 1, code := object_method_1_code, exceptionTable := #[], attributes := #[] }
def k0m0 : Method := { name := "<init>", desc := "()V", sig := { parameters := [], returnType := none }, accessFlags := 1, code := some k0c0 }
/-- java/lang/Object -/
def k0 : Class := { plain "java/lang/Object" none with
  accessFlags := 33
  interfaces := #[]
  cf := some (fileOf pool0 8 #[] #[{ accessFlags := 1, nameIndex := 5, descriptorIndex := 6, attributes := #[] }] 33 0 #[] #[])
  fields := #[]
  methods := #[k0m0]
  instanceTypes := #[]
  staticTypes := #[]
  resolved := Array.replicate 124 none
  statics := none }

def pool1 : Array CpInfo := pool [(2, .class_ 4), (1, u "java/lang/Object"), (0, u "<init>"), (0, u "()V"), (0, .class_ 8), (0, u "com/example/conq/conq/model/Histogram$Read"), (0, .methodref 7 10), (0, .nameAndType 5 11), (0, u "([JJ)V"), (0, .methodref 7 13), (0, .nameAndType 14 15), (0, u "getCount"), (0, u "()J"), (0, .class_ 17), (0, u "com/example/conq/conq/model/ReadGetCountPinLaw"), (2, u "law"), (0, u "(IJJJJJ)Z")] 9

def k1m0 : Method := { name := "<init>", desc := "()V", sig := { parameters := [], returnType := none }, accessFlags := 1, code := none }
def k1c1 : Code := { maxStack := 5, maxLocals := 16, code := code, exceptionTable := #[], attributes := #[] }
def k1m1 : Method := { name := "law", desc := "(IJJJJJ)Z", sig := { parameters := [.int, .long, .long, .long, .long, .long], returnType := some .boolean }, accessFlags := 9, code := some k1c1 }
/-- com/example/conq/conq/model/ReadGetCountPinLaw -/
def k1 : Class := { plain "com/example/conq/conq/model/ReadGetCountPinLaw" (some 0) with
  accessFlags := 49
  interfaces := #[]
  cf := some (fileOf pool1 16 #[] #[{ accessFlags := 1, nameIndex := 5, descriptorIndex := 6, attributes := #[] }, { accessFlags := 9, nameIndex := 20, descriptorIndex := 21, attributes := #[] }] 49 2 #[] #[])
  fields := #[]
  methods := #[k1m0, k1m1]
  instanceTypes := #[]
  staticTypes := #[]
  resolved := Array.replicate 31 none
  statics := none }

def pool2 : Array CpInfo := pool [(1, .methodref 2 3), (0, .class_ 4), (0, .nameAndType 5 6), (0, u "java/lang/Object"), (0, u "<init>"), (0, u "()V"), (0, .fieldref 8 9), (0, .class_ 10), (0, .nameAndType 11 12), (0, u "com/example/conq/conq/model/Histogram$Read"), (0, u "cumulative"), (0, u "[J"), (0, .fieldref 8 14), (0, .nameAndType 15 16), (0, u "sum"), (0, u "J"), (0, u "([JJ)V"), (4, u "getCount"), (0, u "()J"), (4, .class_ 29), (0, u "com/example/conq/conq/model/Histogram")] 2

def k2c0 : Code := { maxStack := 3, maxLocals := 4, code := prog_23_method_1_code, exceptionTable := #[], attributes := #[] }
def k2m0 : Method := { name := "<init>", desc := "([JJ)V", sig := { parameters := [(.array .long), .long], returnType := none }, accessFlags := 0, code := some k2c0 }
def k2c1 : Code := { maxStack := 3, maxLocals := 1, code := prog_23_method_3_code, exceptionTable := #[], attributes := #[] }
def k2m1 : Method := { name := "getCount", desc := "()J", sig := { parameters := [], returnType := some .long }, accessFlags := 1, code := some k2c1 }
/-- com/example/conq/conq/model/Histogram$Read -/
def k2 : Class := { plain "com/example/conq/conq/model/Histogram$Read" (some 0) with
  accessFlags := 33
  interfaces := #[]
  cf := some (fileOf pool2 8 #[.nestHost 28] #[{ accessFlags := 0, nameIndex := 5, descriptorIndex := 17, attributes := #[] }, { accessFlags := 1, nameIndex := 22, descriptorIndex := 23, attributes := #[] }] 33 2 #[] #[{ accessFlags := 18, nameIndex := 11, descriptorIndex := 12, attributes := #[] }, { accessFlags := 18, nameIndex := 15, descriptorIndex := 16, attributes := #[] }])
  fields := #[{ name := "cumulative", type := (.array .long), accessFlags := 18, slot := 0, constantValue := 0 }, { name := "sum", type := .long, accessFlags := 18, slot := 1, constantValue := 0 }]
  methods := #[k2m0, k2m1]
  instanceTypes := #[(.array .long), .long]
  staticTypes := #[]
  resolved := Array.replicate 32 none
  statics := none }

def pool3 : Array CpInfo := pool [(1, u "java/lang/Cloneable"), (0, .class_ 1), (0, u "java/lang/Object"), (0, .class_ 3)] 3

/-- java/lang/Cloneable -/
def k3 : Class := { plain "java/lang/Cloneable" (some 0) with
  accessFlags := 1537
  interfaces := #[]
  cf := some (fileOf pool3 2 #[] #[] 1537 4 #[] #[])
  fields := #[]
  methods := #[]
  instanceTypes := #[]
  staticTypes := #[]
  resolved := Array.replicate 8 none
  statics := none }

def pool4 : Array CpInfo := pool [(1, u "java/io/Serializable"), (0, .class_ 1), (0, u "java/lang/Object"), (0, .class_ 3)] 3

/-- java/io/Serializable -/
def k4 : Class := { plain "java/io/Serializable" (some 0) with
  accessFlags := 1537
  interfaces := #[]
  cf := some (fileOf pool4 2 #[] #[] 1537 4 #[] #[])
  fields := #[]
  methods := #[]
  instanceTypes := #[]
  staticTypes := #[]
  resolved := Array.replicate 8 none
  statics := none }

/-- the primitive byte -/
def k5 : Class := { plain "byte" none with kind := .primitive 'B', accessFlags := 0x411 }
/-- [B -/
def k6 : Class := { plain "[B" (some 0) with kind := .array 5 .byte, interfaces := #[3, 4], accessFlags := 1041 }

/-- the primitive int -/
def k7 : Class := { plain "int" none with kind := .primitive 'I', accessFlags := 0x411 }
/-- [I -/
def k8 : Class := { plain "[I" (some 0) with kind := .array 7 .int, interfaces := #[3, 4], accessFlags := 1041 }

/-- the primitive long -/
def k9 : Class := { plain "long" none with kind := .primitive 'J', accessFlags := 0x411 }
/-- [J -/
def k10 : Class := { plain "[J" (some 0) with kind := .array 9 .long, interfaces := #[3, 4], accessFlags := 1041 }

def heap : Heap := #[]
def classes : Array Class := #[k0, k1, k2, k3, k4, k5, k6, k7, k8, k9, k10]
def interned : List (Array UInt16 × Addr) := []
def slotsUsed : Nat := 0
def theMethod : MethodId := ⟨1, 1⟩
def args0 : Array Value := #[.int 5, .long 5, .long 5, .long 5, .long 5, .long 5]
def aboutOver (below : List Frame) : State where
  vm := { classes := classes, interned := interned.toArray }
  heap := heap
  slotsUsed := slotsUsed
  threads := #[{ frames := .invoking theMethod args0 :: below }]
def below0 : List Frame := [.native { method := ⟨0, 0⟩, args := #[] }]
def about1 : State := aboutOver below0
def p0 : Program := .bare "" "" ""
def e0 : Env := launch0.env 0 0 0
theorem w_frames : about1.frames = Frame.invoking theMethod args0 :: below0 := rfl
set_option maxRecDepth 65536 in
theorem w_args : argsFit about1.vm theMethod args0 = true := by decide +kernel
set_option maxRecDepth 65536 in
theorem w_heap : heapFits about1 = true := by decide +kernel
set_option maxRecDepth 65536 in
theorem w_runnable : about1.curStatus? = some .runnable := by decide +kernel
set_option maxRecDepth 65536 in
theorem w_alone : about1.alone = true := by decide +kernel
set_option maxRecDepth 65536 in
theorem w_named : about1.methodNamed? x = some theMethod := by decide +kernel
set_option maxRecDepth 65536 in
theorem w_hears : about1.hears theMethod below0 = true := by decide +kernel
set_option maxRecDepth 65536 in
theorem w_ripe : about1.ripe theMethod args0 below0 = true := by decide +kernel
theorem w_running : about1.status = .running := rfl
set_option maxRecDepth 65536 in
theorem w_room : about1.hasRoom e0.platform room_1 = true :=
  launch0.hasRoom_least _ room_1 (by decide +kernel) (by decide +kernel) (by decide +kernel) (by decide +kernel) (by decide +kernel) (by decide +kernel)
theorem allAtoms_all (ts : List Jvm.Cond) (a : Array Jvm.Value) (st : Jvm.State) : (allAtoms ts).before a st = ts.all (fun c => c.before a st) := by
  induction ts with
  | nil => rfl
  | cons c t ih =>
    show (Jvm.Cond.and c (allAtoms t)).before a st = _
    rw [Jvm.Cond.before_and, ih, List.all_cons]
def words1 : List Jvm.Cond := Jvm.Cond.code x code maxLocals ret :: tables_1
/-- a 'code' word, met by the world's own term for the bytes: nothing is compared byte by byte -/
theorem code_word {y : MethodName} {bytes : ByteArray} {mx : Nat} {rt : Option FieldType} {a : Array Value} {s : State} {m : MethodId} {meth : Method} {c : Code} (h1 : s.methodNamed? y = some m) (h2 : s.vm.method? m = some meth) (h3 : meth.code = some c) (h4 : c.code = bytes)
    (h5 : (c.maxLocals == mx && c.exceptionTable.isEmpty && decide (c.maxStack ≤ mostOperands) && decide (meth.sig.returnType = rt) && !meth.locks && decide (parseMethodDescriptor y.desc = some meth.sig)) = true) : (Jvm.Cond.code y bytes mx rt).before a s = true := by
  simp only [Bool.and_eq_true, beq_iff_eq, Bool.not_eq_true', decide_eq_true_eq] at h5
  obtain ⟨⟨⟨⟨⟨g1, g2⟩, g3⟩, g4⟩, g5⟩, g6⟩ := h5
  simp [Cond.before, Cond.holds, Cond.value, h1, h2, h3, h4, g1, g2, g3, g4, g5, g6]
def isCode : Jvm.Cond → Bool
  | .code _ _ _ _ => true
  | _ => false
theorem all_split {L : List Jvm.Cond} {P : Jvm.Cond → Bool} (h1 : L.all (fun c => isCode c || P c) = true) (h2 : ∀ c ∈ L.filter isCode, P c = true) : L.all P = true := by
  refine List.all_eq_true.mpr fun c hc => ?_
  have h := List.all_eq_true.mp h1 c hc
  rcases Bool.eq_false_or_eq_true (isCode c) with hi | hi
  · exact h2 c (List.mem_filter.mpr ⟨hc, hi⟩)
  · simpa [hi] using h
set_option maxRecDepth 65536 in
theorem w_c0 : (Jvm.Cond.code x code maxLocals ret).before args0 about1 = true := code_word (m := ⟨1, 1⟩) (meth := k1m1) (c := k1c1) (by decide +kernel) rfl rfl rfl (by decide +kernel)
set_option maxRecDepth 65536 in
theorem w_c1 : (Jvm.Cond.code ({ cls := "com/example/conq/conq/model/Histogram$Read", name := "<init>", desc := "([JJ)V" } : Jvm.MethodName) prog_23_method_1_code (4 : Nat) (Option.none : Option Jvm.ClassFile.FieldType)).before args0 about1 = true := code_word (m := ⟨2, 0⟩) (meth := k2m0) (c := k2c0) (by decide +kernel) rfl rfl rfl (by decide +kernel)
set_option maxRecDepth 65536 in
theorem w_c2 : (Jvm.Cond.code ({ cls := "java/lang/Object", name := "<init>", desc := "()V" } : Jvm.MethodName) object_method_1_code (1 : Nat) (Option.none : Option Jvm.ClassFile.FieldType)).before args0 about1 = true := code_word (m := ⟨0, 0⟩) (meth := k0m0) (c := k0c0) (by decide +kernel) rfl rfl rfl (by decide +kernel)
set_option maxRecDepth 65536 in
theorem w_c3 : (Jvm.Cond.code ({ cls := "com/example/conq/conq/model/Histogram$Read", name := "getCount", desc := "()J" } : Jvm.MethodName) prog_23_method_3_code (1 : Nat) (Option.some Jvm.ClassFile.FieldType.long)).before args0 about1 = true := code_word (m := ⟨2, 1⟩) (meth := k2m1) (c := k2c1) (by decide +kernel) rfl rfl rfl (by decide +kernel)
def codes1 : List Jvm.Cond := [Jvm.Cond.code x code maxLocals ret, Jvm.Cond.code ({ cls := "com/example/conq/conq/model/Histogram$Read", name := "<init>", desc := "([JJ)V" } : Jvm.MethodName) prog_23_method_1_code (4 : Nat) (Option.none : Option Jvm.ClassFile.FieldType), Jvm.Cond.code ({ cls := "java/lang/Object", name := "<init>", desc := "()V" } : Jvm.MethodName) object_method_1_code (1 : Nat) (Option.none : Option Jvm.ClassFile.FieldType), Jvm.Cond.code ({ cls := "com/example/conq/conq/model/Histogram$Read", name := "getCount", desc := "()J" } : Jvm.MethodName) prog_23_method_3_code (1 : Nat) (Option.some Jvm.ClassFile.FieldType.long)]
set_option maxRecDepth 65536 in
theorem codes_eq : words1.filter isCode = codes1 := rfl
theorem w_codes : ∀ c ∈ words1.filter isCode, c.before args0 about1 = true := by
  rw [codes_eq]
  intro c hc
  simp only [codes1, List.mem_cons, List.not_mem_nil, or_false] at hc
  rcases hc with rfl | rfl | rfl | rfl
  · exact w_c0
  · exact w_c1
  · exact w_c2
  · exact w_c3
set_option maxRecDepth 65536 in
theorem w_t1 : words1.all (fun c => isCode c || c.before args0 about1) = true := by decide +kernel
theorem w_tables : (allAtoms (Jvm.Cond.code x code maxLocals ret :: tables_1)).before args0 about1 = true := by
  rw [allAtoms_all]
  show words1.all (fun c => c.before args0 about1) = true
  refine all_split ?_ w_codes
  rw [w_t1]
set_option maxRecDepth 65536 in
theorem w_case : (Jvm.Cond.and given_1 narrow_1).before args0 about1 = true := by decide +kernel
theorem w_applies : (headSpec (Jvm.Cond.code x code maxLocals ret :: tables_1) room_1).applies x e0.platform about1 = true :=
  (Spec.applies_iff w_frames).mpr ⟨w_running, w_runnable, w_alone, w_named, w_hears, w_ripe, w_room, w_tables⟩
theorem atStart : AtStart classFile x code maxLocals ret World_1 tables_1 room_1 Calls_1 rest_1 Pre_1 launch0 p0 e0 about1 theMethod args0 below0 :=
  ⟨lists_1, trivial, launch0.admits_env _ _ _, launch0.least_env, fairChoices_fair.cas, fairChoices_fair.clock, w_frames, w_args, w_heap, w_applies, trivial, trivial, w_case⟩
end start1
theorem witness_1 : WitnessClaimed_1 := ⟨start1.p0, start1.e0, start1.about1, start1.theMethod, start1.args0, start1.below0, start1.atStart⟩
end Jvm.Pilot.@@N@@
