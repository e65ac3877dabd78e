import JvmDerived
import JvmDerived.Pilot.@@N@@Statement
import JvmDerived.Pilot.@@N@@Code
set_option linter.unusedVariables false
set_option linter.unusedSimpArgs false
namespace Jvm.RoadKit
open Sem ClassFile Op Lib Jvm.Stand Jvm.Free Jvm.LawKit
section New
variable {p : Program} {l : Launch} {e : Env} {R : Room} {s : State} {m : MethodId} {args : Array Value} {below : List Frame} {meth : Method} {c : Code} {T : State} {locs : List Loc} {cells slots : Nat}
theorem own_retI (X : Stand p l e R s m args below meth c T locs cells slots) (hx : p.tables.exec = Jvm.exec) {pc : Nat} {Ls : Array Slot} {z : Int32} {rest : List Value} (hret : meth.sig.returnType = some .int) (hd : decode c.code pc = .ok (.ireturn, 1)) {fs : List Frame}
    (hl : ∀ (f : JFrame) (acts : List Action), f.method = m → f.locked = none → f.entered = [] → (doReturn e (T.setTop f) acts (some (.int z))).1 = T.setFrames fs) : Steps p.tables e below (T.setTop (mkF m pc Ls (.int z :: rest))) (T.setFrames fs) :=
  retOut X hx hret rfl (Or.inl ⟨rfl, Or.inl rfl, z, rfl⟩) hd hl
theorem own_retL (X : Stand p l e R s m args below meth c T locs cells slots) (hx : p.tables.exec = Jvm.exec) {pc : Nat} {Ls : Array Slot} {z : Int64} {rest : List Value} (hret : meth.sig.returnType = some .long) (hd : decode c.code pc = .ok (.lreturn, 1)) {fs : List Frame}
    (hl : ∀ (f : JFrame) (acts : List Action), f.method = m → f.locked = none → f.entered = [] → (doReturn e (T.setTop f) acts (some (.long z))).1 = T.setFrames fs) : Steps p.tables e below (T.setTop (mkF m pc Ls (.long z :: rest))) (T.setFrames fs) :=
  retOut X hx hret rfl (Or.inr (Or.inl ⟨rfl, rfl, z, rfl⟩)) hd hl
theorem own_retA (X : Stand p l e R s m args below meth c T locs cells slots) (hx : p.tables.exec = Jvm.exec) {pc : Nat} {Ls : Array Slot} {w : Value} {t : FieldType} {rest : List Value} (hret : meth.sig.returnType = some t) (ht : t.isReference = true) (hw : w.isRef = true) (hn : narrow t w = w) (hd : decode c.code pc = .ok (.areturn, 1)) {fs : List Frame}
    (hl : ∀ (f : JFrame) (acts : List Action), f.method = m → f.locked = none → f.entered = [] → (doReturn e (T.setTop f) acts (some w)).1 = T.setFrames fs) : Steps p.tables e below (T.setTop (mkF m pc Ls (w :: rest))) (T.setFrames fs) :=
  retOut X hx hret hn (Or.inr (Or.inr (Or.inr (Or.inr ⟨rfl, ht, hw⟩)))) hd hl
theorem own_lremM {g : JFrame} {target : State} (X : Stand p l e R s m args below meth c T locs cells slots) (hx : p.tables.exec = Jvm.exec) (hg : g.method = m) {x y : Int64} {rest : List Value} (hd : decode c.code g.pc = .ok (.lrem, 1)) (hs : g.stack = .long y :: .long x :: rest) (hy : y ≠ 0)
    (hr : Steps p.tables e below (T.setTop { g with pc := g.pc + 1, stack := .long (x % y) :: rest }) target) : Steps p.tables e below (T.setTop g) target := by
  have q : x - x / y * y = x % y := lrem_mod x y
  exact XS.lrem X.here hx hg hd hs hy (by rw [q]; exact hr)
theorem own_selp {Z s : State} {a0 args : Array Value} {y : MethodName} {n : Nat} (hZ : Z.Warmed39 s.vm) (wi : (Cond.instantiable y.cls n).before a0 Z = true) (wp : (Cond.privateMethod y).before a0 Z = true) (wm : (Cond.instanceMethod y).before a0 Z = true)
    (hy : y.cls ≠ "java/lang/invoke/MethodHandle" ∧ y.cls ≠ "java/lang/invoke/VarHandle") : (Cond.selects y.cls y y).before args s = true := by
  obtain ⟨c, k, h1, h2, h3, h4, -⟩ := Cond.instantiable_spec (mvT (args := args) hZ wi)
  exact selects_self_of_private h1 h2 (by simp only [Bool.or_eq_false_iff] at h4; exact h4.1) (Cond.privateMethod_at (mvP hZ wp (args := #[]))) (mvT hZ wm) hy
end New
end Jvm.RoadKit
namespace Jvm.Pilot.@@N@@
open Jvm Jvm.ClassFile Sem Op Lib Jvm.Free Jvm.Stand Jvm.LawKit Jvm.RoadKit Bundle Jvm.Pilot.@@N@@.Jvm.D
def Q2 (h0 : Heap) (n0 : Nat) (v : Option Value) (h : Heap) (L : List Loc) : Prop := v = none ∧ Fr n0 L ∧ h = h0
theorem d2_0 : decode jdk_30_method_1_code 0 = .ok (.aload_n 0, 1) := by decide +kernel
theorem d2_1 : decode jdk_30_method_1_code 1 = .ok (.invokespecial 1, 3) := by decide +kernel
theorem d2_4 : decode jdk_30_method_1_code 4 = .ok (.return_, 1) := by decide +kernel
theorem pn_java_lang_Record : plainName "java/lang/Record" = true := by first | (simp [plainName, overriddenIn]; done) | decide +kernel
theorem ef_rm2 (m : MethodId) (x0 : Addr) : entryFrame m #[(.ref x0)] 1 = mkF m 0 #[.val (.ref x0)] [] := by first | (simp [entryFrame, mkF, argsToLocals, Value.category]; done) | rfl
set_option maxRecDepth 65536 in
set_option maxHeartbeats 40000000 in
theorem rm2 (l : Launch) (Z : State) (a0 : Array Value) (hw : ∀ d ∈ tables_1, d.before a0 Z = true) (ws : List Jvm.Cond) (a1 : Addr) (h0 : Heap) (n0 : Nat) (Z0 : n0 ≤ h0.size) :
    MetFree l (⟨"java/lang/Record", "<init>", "()V"⟩ : MethodName) (head1 (Jvm.Cond.code (⟨"java/lang/Record", "<init>", "()V"⟩ : MethodName) jdk_30_method_1_code 1 none :: ws) ({ frames := 1, cells := 0, slots := 0, locals := 12 } : Room)) (fun a U => a = #[(.ref a1)] ∧ Z.Warmed39 U.vm ∧ U.heap = h0) (fun _ _ _ _ _ => True) (fun _ U o U' => ∃ v L, o = .returned v ∧ Q2 h0 n0 v U'.heap L ∧ FrameEnd U o U' L ({ frames := 1, cells := 0, slots := 0, locals := 12 } : Room).cells ({ frames := 1, cells := 0, slots := 0, locals := 12 } : Room).slots) := by
  refine MetFree.of_bodySF (plainFor_of_name pn_java_lang_Record) hisR ?_
  intro p e s m args below meth c s₁ Bd hml0 hP hK
  obtain ⟨rfl, hZ, hh⟩ := hP
  have hx := Bd.exec
  have hby := Bd.bytes
  have hml : c.maxLocals = 1 := hml0
  have hown : s.vm.findClass "java/lang/Record" = some m.cls := findClass_of_methodNamed Bd.named
  have hnm := (name_of_methodNamed Bd.named Bd.method).1
  have X0 : Stand p l e ({ frames := 1, cells := 0, slots := 0, locals := 12 } : Room) s m #[(.ref a1)] below meth c s₁ [] 0 0 := Stand.of_body Bd
  have e0 : s₁.heap = h0 := by rw [← hh, Bd.state]; rfl
  have N0 := Fr.nil n0
  have KP0 : Keep h0 h0 [] := Keep.refl h0 _
  obtain ⟨G, hG⟩ : ∃ G : State, G = s₁.setTop (entryFrame m #[(.ref a1)] 1) := ⟨_, rfl⟩
  have pre0 : ∀ t, Steps p.tables e below (s₁.setTop (mkF m 0 #[.val (.ref a1)] [])) t → Steps p.tables e below G t := fun t k => hG ▸ castTop (ef_rm2 m a1) k
  have K1 : ∀ t, Steps p.tables e below (s₁.setTop (mkF m 1 #[.val (.ref a1)] [(.ref a1)])) t → Steps p.tables e below G t := by
    intro t k
    refine pre0 t ?_
    show Steps p.tables e below (s₁.setTop (mkF m 0 #[.val (.ref a1)] [])) _
    refine XS.aloadN X0.here hx rfl (hb hby d2_0) rfl rfl ?_
    show Steps p.tables e below (s₁.setTop (mkF m 1 #[.val (.ref a1)] [(.ref a1)])) _
    exact k
  obtain ⟨T2, X2, e2, st2⟩ := initO X0 hx hZ hown (hw _ (List.mem_of_getElem? (i := 11) rfl)) (hw _ (List.mem_of_getElem? (i := 12) rfl)) (hw _ (List.mem_of_getElem? (i := 13) rfl)) e0 (g := (mkF m 1 #[.val (.ref a1)] [(.ref a1)])) rfl (by rw [hml]; rfl) rfl (hb hby d2_1) (by decide) (W := 0) (by show 2 * 0 + _ ≤ _; exact Nat.le_of_eq rfl) (by decide)
  have K3 : ∀ t, Steps p.tables e below (T2.setTop (mkF m 4 #[.val (.ref a1)] [])) t → Steps p.tables e below G t := fun t k => K1 t (st2 t k)
  obtain ⟨fs, hr, hrun, hended, hW, hsame⟩ := X2.leave (v := none) (fun _ => rfl)
  have KF := K3
  rw [hG] at KF
  refine ⟨_, _, KF _ ?_, hrun, hended, _, _, rfl, ?_, ⟨_, rfl⟩, hW, hsame.mono (by decide) (by decide)⟩
  · show Steps p.tables e below (T2.setTop (mkF m 4 #[.val (.ref a1)] [])) _
    exact X2.returnOut hx Bd.returns (hb hby d2_4) hr
  · show Q2 h0 n0 _ T2.heap _
    rw [e2]
    exact ⟨rfl, N0, rfl⟩
def Q1 (Z : State) (a1 : Addr) (p3 p4 : Int32) (h0 : Heap) (n0 : Nat) (v : Option Value) (h : Heap) (L : List Loc) : Prop := v = none ∧ Fr n0 L ∧ Keep h0 h [a1] ∧ Exa Z h a1 "org/driftsieve/ItemRecord$Copy" ∧ Fld Z h a1 "org/driftsieve/ItemRecord$Copy" "version" "Lorg/driftsieve/VersionId;" .null ∧ Fld Z h a1 "org/driftsieve/ItemRecord$Copy" "length" "I" (.int p3) ∧ Fld Z h a1 "org/driftsieve/ItemRecord$Copy" "checksum" "I" (.int p4)
theorem d1_0 : decode prog_7_method_1_code 0 = .ok (.aload_n 0, 1) := by decide +kernel
theorem d1_1 : decode prog_7_method_1_code 1 = .ok (.invokespecial 1, 3) := by decide +kernel
theorem d1_4 : decode prog_7_method_1_code 4 = .ok (.aload_n 0, 1) := by decide +kernel
theorem d1_5 : decode prog_7_method_1_code 5 = .ok (.aload_n 1, 1) := by decide +kernel
theorem d1_6 : decode prog_7_method_1_code 6 = .ok (.putfield 7, 3) := by decide +kernel
theorem d1_9 : decode prog_7_method_1_code 9 = .ok (.aload_n 0, 1) := by decide +kernel
theorem d1_10 : decode prog_7_method_1_code 10 = .ok (.lload_n 2, 1) := by decide +kernel
theorem d1_11 : decode prog_7_method_1_code 11 = .ok (.putfield 13, 3) := by decide +kernel
theorem d1_14 : decode prog_7_method_1_code 14 = .ok (.aload_n 0, 1) := by decide +kernel
theorem d1_15 : decode prog_7_method_1_code 15 = .ok (.iload 4, 2) := by decide +kernel
theorem d1_17 : decode prog_7_method_1_code 17 = .ok (.putfield 17, 3) := by decide +kernel
theorem d1_20 : decode prog_7_method_1_code 20 = .ok (.aload_n 0, 1) := by decide +kernel
theorem d1_21 : decode prog_7_method_1_code 21 = .ok (.iload 5, 2) := by decide +kernel
theorem d1_23 : decode prog_7_method_1_code 23 = .ok (.putfield 21, 3) := by decide +kernel
theorem d1_26 : decode prog_7_method_1_code 26 = .ok (.return_, 1) := by decide +kernel
theorem pn_org_driftsieve_ItemRecord_Copy : plainName "org/driftsieve/ItemRecord$Copy" = true := by first | (simp [plainName, overriddenIn]; done) | decide +kernel
theorem pd_0 : parseMethodDescriptor "()V" = some ⟨[], none⟩ := by decide +kernel
theorem ef_rm1 (m : MethodId) (x0 : Addr) (x2 : Int64) (x3 : Int32) (x4 : Int32) : entryFrame m #[(.ref x0), .null, (.long x2), (.int x3), (.int x4)] 6 = mkF m 0 #[.val (.ref x0), .val .null, .val (.long x2), .second, .val (.int x3), .val (.int x4)] [] := by first | (simp [entryFrame, mkF, argsToLocals, Value.category]; done) | rfl
set_option maxRecDepth 65536 in
set_option maxHeartbeats 40000000 in
theorem rm1 (l : Launch) (Z : State) (a0 : Array Value) (hw : ∀ d ∈ tables_1, d.before a0 Z = true) (ws : List Jvm.Cond) (a1 : Addr) (q2 : Int64) (p3 p4 : Int32) (h0 : Heap) (n0 : Nat) (Z0 : n0 ≤ h0.size) (E1 : Exa Z h0 a1 "org/driftsieve/ItemRecord$Copy") (F0 : Fld Z h0 a1 "org/driftsieve/ItemRecord$Copy" "version" "Lorg/driftsieve/VersionId;" .null) (F1 : Fld Z h0 a1 "org/driftsieve/ItemRecord$Copy" "offset" "J" (.long (0 : Int64))) (F2 : Fld Z h0 a1 "org/driftsieve/ItemRecord$Copy" "length" "I" (.int (0 : Int32))) (F3 : Fld Z h0 a1 "org/driftsieve/ItemRecord$Copy" "checksum" "I" (.int (0 : Int32))) (g1 : n0 ≤ a1) :
    MetFree l (⟨"org/driftsieve/ItemRecord$Copy", "<init>", "(Lorg/driftsieve/VersionId;JII)V"⟩ : MethodName) (head1 (Jvm.Cond.code (⟨"org/driftsieve/ItemRecord$Copy", "<init>", "(Lorg/driftsieve/VersionId;JII)V"⟩ : MethodName) prog_7_method_1_code 6 none :: ws) ({ frames := 2, cells := 0, slots := 0, locals := 24 } : Room)) (fun a U => a = #[(.ref a1), .null, (.long q2), (.int p3), (.int p4)] ∧ Z.Warmed39 U.vm ∧ U.heap = h0) (fun _ _ _ _ _ => True) (fun _ U o U' => ∃ v L, o = .returned v ∧ Q1 Z a1 p3 p4 h0 n0 v U'.heap L ∧ FrameEnd U o U' L ({ frames := 2, cells := 0, slots := 0, locals := 24 } : Room).cells ({ frames := 2, cells := 0, slots := 0, locals := 24 } : Room).slots) := by
  refine MetFree.of_bodySF (plainFor_of_name pn_org_driftsieve_ItemRecord_Copy) hisR ?_
  intro p e s m args below meth c s₁ Bd hml0 hP hK
  obtain ⟨rfl, hZ, hh⟩ := hP
  have hx := Bd.exec
  have hby := Bd.bytes
  have hml : c.maxLocals = 6 := hml0
  have hown : s.vm.findClass "org/driftsieve/ItemRecord$Copy" = some m.cls := findClass_of_methodNamed Bd.named
  have hnm := (name_of_methodNamed Bd.named Bd.method).1
  have X0 : Stand p l e ({ frames := 2, cells := 0, slots := 0, locals := 24 } : Room) s m #[(.ref a1), .null, (.long q2), (.int p3), (.int p4)] below meth c s₁ [] 0 0 := Stand.of_body Bd
  have e0 : s₁.heap = h0 := by rw [← hh, Bd.state]; rfl
  have N0 := Fr.nil n0
  have KP0 : Keep h0 h0 [a1] := Keep.refl h0 _
  obtain ⟨G, hG⟩ : ∃ G : State, G = s₁.setTop (entryFrame m #[(.ref a1), .null, (.long q2), (.int p3), (.int p4)] 6) := ⟨_, rfl⟩
  have pre0 : ∀ t, Steps p.tables e below (s₁.setTop (mkF m 0 #[.val (.ref a1), .val .null, .val (.long q2), .second, .val (.int p3), .val (.int p4)] [])) t → Steps p.tables e below G t := fun t k => hG ▸ castTop (ef_rm1 m a1 q2 p3 p4) k
  have K1 : ∀ t, Steps p.tables e below (s₁.setTop (mkF m 1 #[.val (.ref a1), .val .null, .val (.long q2), .second, .val (.int p3), .val (.int p4)] [(.ref a1)])) t → Steps p.tables e below G t := by
    intro t k
    refine pre0 t ?_
    show Steps p.tables e below (s₁.setTop (mkF m 0 #[.val (.ref a1), .val .null, .val (.long q2), .second, .val (.int p3), .val (.int p4)] [])) _
    refine XS.aloadN X0.here hx rfl (hb hby d1_0) rfl rfl ?_
    show Steps p.tables e below (s₁.setTop (mkF m 1 #[.val (.ref a1), .val .null, .val (.long q2), .second, .val (.int p3), .val (.int p4)] [(.ref a1)])) _
    exact k
  obtain ⟨_, _, ⟨T2, L2, k2, n2⟩, -, X2, ⟨Lc2, hQ2, l2, y2, z2⟩, st2⟩ := X0.specialBack hx (y := (⟨"java/lang/Record", "<init>", "()V"⟩ : MethodName)) rfl hown (mvT hZ (hw _ (List.mem_of_getElem? (i := 6) rfl))) (mvT hZ (hw _ (List.mem_of_getElem? (i := 7) rfl))) (mvT hZ (hw _ (List.mem_of_getElem? (i := 10) rfl))) (by decide) (backOf (W := 0) (rm2 l Z a0 hw [] a1 h0 n0 Z0) hZ (hw _ (List.mem_of_getElem? (i := 10) rfl)) (hw _ (List.mem_of_getElem? (i := 9) rfl)) (by decide) (by decide)) (g := (mkF m 1 #[.val (.ref a1), .val .null, .val (.long q2), .second, .val (.int p3), .val (.int p4)] [(.ref a1)])) rfl (by rw [hml]; rfl) (Steps.refl _) (a := a1) (argsL := []) (rest := []) (lenOf pd_0 rfl) rfl (by show 2 * 0 + _ ≤ _; exact Nat.le_of_eq rfl) (hb hby d1_1) (fun _ _ => ⟨rfl, e0, (by decide : 0 + 0 ≤ _), (by decide : 0 + 0 ≤ _)⟩)
  dsimp only [Pt.U, Pt.locs, Pt.cells, Pt.slots] at X2 l2 y2 z2 st2 hQ2
  subst l2 y2 z2
  obtain ⟨rfl, Nq2, e2⟩ := hQ2
  have N3 := Fr.app N0 Nq2
  have K4 : ∀ t, Steps p.tables e below (T2.setTop (mkF m 4 #[.val (.ref a1), .val .null, .val (.long q2), .second, .val (.int p3), .val (.int p4)] [])) t → Steps p.tables e below G t := fun t k => K1 t (st2.trans k)
  have K5 : ∀ t, Steps p.tables e below (T2.setTop (mkF m 6 #[.val (.ref a1), .val .null, .val (.long q2), .second, .val (.int p3), .val (.int p4)] [.null, (.ref a1)])) t → Steps p.tables e below G t := by
    intro t k
    refine K4 t ?_
    show Steps p.tables e below (T2.setTop (mkF m 4 #[.val (.ref a1), .val .null, .val (.long q2), .second, .val (.int p3), .val (.int p4)] [])) _
    refine XS.aloadN X2.here hx rfl (hb hby d1_4) rfl rfl ?_
    show Steps p.tables e below (T2.setTop (mkF m 5 #[.val (.ref a1), .val .null, .val (.long q2), .second, .val (.int p3), .val (.int p4)] [(.ref a1)])) _
    refine XS.aloadN X2.here hx rfl (hb hby d1_5) rfl rfl ?_
    show Steps p.tables e below (T2.setTop (mkF m 6 #[.val (.ref a1), .val .null, .val (.long q2), .second, .val (.int p3), .val (.int p4)] [.null, (.ref a1)])) _
    exact k
  obtain ⟨T6, h6, X6, e6, W6, st6⟩ := putF X2 hx hZ hown (host := "") (Or.inl (hw _ (List.mem_of_getElem? (i := 14) rfl))) Via.refl e2 F0 E1 (Or.inr ⟨(hw _ (List.mem_of_getElem? (i := 15) rfl)), rfl, hnm⟩) (hw _ (List.mem_of_getElem? (i := 1) rfl)) (ty := (.object "org/driftsieve/VersionId")) (by decide) rfl rfl (g := (mkF m 6 #[.val (.ref a1), .val .null, .val (.long q2), .second, .val (.int p3), .val (.int p4)] [.null, (.ref a1)])) rfl rfl (hb hby d1_6)
  have K7 : ∀ t, Steps p.tables e below (T6.setTop (mkF m 9 #[.val (.ref a1), .val .null, .val (.long q2), .second, .val (.int p3), .val (.int p4)] [])) t → Steps p.tables e below G t := fun t k => K5 t (st6 t k)
  have f8 := E1.wr W6
  have f9 := F0.same W6
  have f10 := F1.other W6 (Or.inr (slot_ne (Or.inr (hw _ (List.mem_of_getElem? (i := 17) rfl))) (Or.inr (hw _ (List.mem_of_getElem? (i := 15) rfl))) (by decide) (t := .long) (t' := (.object "org/driftsieve/VersionId")) (by decide) (by decide)))
  have f11 := F2.other W6 (Or.inr (slot_ne (Or.inr (hw _ (List.mem_of_getElem? (i := 19) rfl))) (Or.inr (hw _ (List.mem_of_getElem? (i := 15) rfl))) (by decide) (t := .int) (t' := (.object "org/driftsieve/VersionId")) (by decide) (by decide)))
  have f12 := F3.other W6 (Or.inr (slot_ne (Or.inr (hw _ (List.mem_of_getElem? (i := 21) rfl))) (Or.inr (hw _ (List.mem_of_getElem? (i := 15) rfl))) (by decide) (t := .int) (t' := (.object "org/driftsieve/VersionId")) (by decide) (by decide)))
  have Z13 : n0 ≤ h6.size := Nat.le_trans Z0 (Keep.of_wr W6).1
  have KP14 : Keep h0 h6 [a1] := KP0.wr W6 (Or.inl (List.mem_of_getElem? (i := 0) rfl))
  have N15 := Fr.snoc X6 N3 g1
  have K16 : ∀ t, Steps p.tables e below (T6.setTop (mkF m 11 #[.val (.ref a1), .val .null, .val (.long q2), .second, .val (.int p3), .val (.int p4)] [(.long q2), (.ref a1)])) t → Steps p.tables e below G t := by
    intro t k
    refine K7 t ?_
    show Steps p.tables e below (T6.setTop (mkF m 9 #[.val (.ref a1), .val .null, .val (.long q2), .second, .val (.int p3), .val (.int p4)] [])) _
    refine XS.aloadN X6.here hx rfl (hb hby d1_9) rfl rfl ?_
    show Steps p.tables e below (T6.setTop (mkF m 10 #[.val (.ref a1), .val .null, .val (.long q2), .second, .val (.int p3), .val (.int p4)] [(.ref a1)])) _
    refine XS.lloadN X6.here hx rfl (hb hby d1_10) rfl ?_
    show Steps p.tables e below (T6.setTop (mkF m 11 #[.val (.ref a1), .val .null, .val (.long q2), .second, .val (.int p3), .val (.int p4)] [(.long q2), (.ref a1)])) _
    exact k
  obtain ⟨T17, h17, X17, e17, W17, st17⟩ := putF X6 hx hZ hown (host := "") (Or.inl (hw _ (List.mem_of_getElem? (i := 16) rfl))) Via.refl e6 f10 f8 (Or.inr ⟨(hw _ (List.mem_of_getElem? (i := 17) rfl)), rfl, hnm⟩) (hw _ (List.mem_of_getElem? (i := 1) rfl)) (ty := .long) (by decide) rfl rfl (g := (mkF m 11 #[.val (.ref a1), .val .null, .val (.long q2), .second, .val (.int p3), .val (.int p4)] [(.long q2), (.ref a1)])) rfl rfl (hb hby d1_11)
  have K18 : ∀ t, Steps p.tables e below (T17.setTop (mkF m 14 #[.val (.ref a1), .val .null, .val (.long q2), .second, .val (.int p3), .val (.int p4)] [])) t → Steps p.tables e below G t := fun t k => K16 t (st17 t k)
  have f19 := f8.wr W17
  have f20 := f9.other W17 (Or.inr (slot_ne (Or.inr (hw _ (List.mem_of_getElem? (i := 15) rfl))) (Or.inr (hw _ (List.mem_of_getElem? (i := 17) rfl))) (by decide) (t := (.object "org/driftsieve/VersionId")) (t' := .long) (by decide) (by decide)))
  have f21 := f10.same W17
  have f22 := f11.other W17 (Or.inr (slot_ne (Or.inr (hw _ (List.mem_of_getElem? (i := 19) rfl))) (Or.inr (hw _ (List.mem_of_getElem? (i := 17) rfl))) (by decide) (t := .int) (t' := .long) (by decide) (by decide)))
  have f23 := f12.other W17 (Or.inr (slot_ne (Or.inr (hw _ (List.mem_of_getElem? (i := 21) rfl))) (Or.inr (hw _ (List.mem_of_getElem? (i := 17) rfl))) (by decide) (t := .int) (t' := .long) (by decide) (by decide)))
  have Z24 : n0 ≤ h17.size := Nat.le_trans Z13 (Keep.of_wr W17).1
  have KP25 : Keep h0 h17 [a1] := KP14.wr W17 (Or.inl (List.mem_of_getElem? (i := 0) rfl))
  have N26 := Fr.snoc X17 N15 g1
  have K27 : ∀ t, Steps p.tables e below (T17.setTop (mkF m 17 #[.val (.ref a1), .val .null, .val (.long q2), .second, .val (.int p3), .val (.int p4)] [(.int p3), (.ref a1)])) t → Steps p.tables e below G t := by
    intro t k
    refine K18 t ?_
    show Steps p.tables e below (T17.setTop (mkF m 14 #[.val (.ref a1), .val .null, .val (.long q2), .second, .val (.int p3), .val (.int p4)] [])) _
    refine XS.aloadN X17.here hx rfl (hb hby d1_14) rfl rfl ?_
    show Steps p.tables e below (T17.setTop (mkF m 15 #[.val (.ref a1), .val .null, .val (.long q2), .second, .val (.int p3), .val (.int p4)] [(.ref a1)])) _
    refine XS.iload X17.here hx rfl (hb hby d1_15) rfl ?_
    show Steps p.tables e below (T17.setTop (mkF m 17 #[.val (.ref a1), .val .null, .val (.long q2), .second, .val (.int p3), .val (.int p4)] [(.int p3), (.ref a1)])) _
    exact k
  obtain ⟨T28, h28, X28, e28, W28, st28⟩ := putF X17 hx hZ hown (host := "") (Or.inl (hw _ (List.mem_of_getElem? (i := 18) rfl))) Via.refl e17 f22 f19 (Or.inr ⟨(hw _ (List.mem_of_getElem? (i := 19) rfl)), rfl, hnm⟩) (hw _ (List.mem_of_getElem? (i := 1) rfl)) (ty := .int) (by decide) rfl rfl (g := (mkF m 17 #[.val (.ref a1), .val .null, .val (.long q2), .second, .val (.int p3), .val (.int p4)] [(.int p3), (.ref a1)])) rfl rfl (hb hby d1_17)
  have K29 : ∀ t, Steps p.tables e below (T28.setTop (mkF m 20 #[.val (.ref a1), .val .null, .val (.long q2), .second, .val (.int p3), .val (.int p4)] [])) t → Steps p.tables e below G t := fun t k => K27 t (st28 t k)
  have f30 := f19.wr W28
  have f31 := f20.other W28 (Or.inr (slot_ne (Or.inr (hw _ (List.mem_of_getElem? (i := 15) rfl))) (Or.inr (hw _ (List.mem_of_getElem? (i := 19) rfl))) (by decide) (t := (.object "org/driftsieve/VersionId")) (t' := .int) (by decide) (by decide)))
  have f32 := f21.other W28 (Or.inr (slot_ne (Or.inr (hw _ (List.mem_of_getElem? (i := 17) rfl))) (Or.inr (hw _ (List.mem_of_getElem? (i := 19) rfl))) (by decide) (t := .long) (t' := .int) (by decide) (by decide)))
  have f33 := f22.same W28
  have f34 := f23.other W28 (Or.inr (slot_ne (Or.inr (hw _ (List.mem_of_getElem? (i := 21) rfl))) (Or.inr (hw _ (List.mem_of_getElem? (i := 19) rfl))) (by decide) (t := .int) (t' := .int) (by decide) (by decide)))
  have Z35 : n0 ≤ h28.size := Nat.le_trans Z24 (Keep.of_wr W28).1
  have KP36 : Keep h0 h28 [a1] := KP25.wr W28 (Or.inl (List.mem_of_getElem? (i := 0) rfl))
  have N37 := Fr.snoc X28 N26 g1
  have K38 : ∀ t, Steps p.tables e below (T28.setTop (mkF m 23 #[.val (.ref a1), .val .null, .val (.long q2), .second, .val (.int p3), .val (.int p4)] [(.int p4), (.ref a1)])) t → Steps p.tables e below G t := by
    intro t k
    refine K29 t ?_
    show Steps p.tables e below (T28.setTop (mkF m 20 #[.val (.ref a1), .val .null, .val (.long q2), .second, .val (.int p3), .val (.int p4)] [])) _
    refine XS.aloadN X28.here hx rfl (hb hby d1_20) rfl rfl ?_
    show Steps p.tables e below (T28.setTop (mkF m 21 #[.val (.ref a1), .val .null, .val (.long q2), .second, .val (.int p3), .val (.int p4)] [(.ref a1)])) _
    refine XS.iload X28.here hx rfl (hb hby d1_21) rfl ?_
    show Steps p.tables e below (T28.setTop (mkF m 23 #[.val (.ref a1), .val .null, .val (.long q2), .second, .val (.int p3), .val (.int p4)] [(.int p4), (.ref a1)])) _
    exact k
  obtain ⟨T39, h39, X39, e39, W39, st39⟩ := putF X28 hx hZ hown (host := "") (Or.inl (hw _ (List.mem_of_getElem? (i := 20) rfl))) Via.refl e28 f34 f30 (Or.inr ⟨(hw _ (List.mem_of_getElem? (i := 21) rfl)), rfl, hnm⟩) (hw _ (List.mem_of_getElem? (i := 1) rfl)) (ty := .int) (by decide) rfl rfl (g := (mkF m 23 #[.val (.ref a1), .val .null, .val (.long q2), .second, .val (.int p3), .val (.int p4)] [(.int p4), (.ref a1)])) rfl rfl (hb hby d1_23)
  have K40 : ∀ t, Steps p.tables e below (T39.setTop (mkF m 26 #[.val (.ref a1), .val .null, .val (.long q2), .second, .val (.int p3), .val (.int p4)] [])) t → Steps p.tables e below G t := fun t k => K38 t (st39 t k)
  have f41 := f30.wr W39
  have f42 := f31.other W39 (Or.inr (slot_ne (Or.inr (hw _ (List.mem_of_getElem? (i := 15) rfl))) (Or.inr (hw _ (List.mem_of_getElem? (i := 21) rfl))) (by decide) (t := (.object "org/driftsieve/VersionId")) (t' := .int) (by decide) (by decide)))
  have f43 := f32.other W39 (Or.inr (slot_ne (Or.inr (hw _ (List.mem_of_getElem? (i := 17) rfl))) (Or.inr (hw _ (List.mem_of_getElem? (i := 21) rfl))) (by decide) (t := .long) (t' := .int) (by decide) (by decide)))
  have f44 := f33.other W39 (Or.inr (slot_ne (Or.inr (hw _ (List.mem_of_getElem? (i := 19) rfl))) (Or.inr (hw _ (List.mem_of_getElem? (i := 21) rfl))) (by decide) (t := .int) (t' := .int) (by decide) (by decide)))
  have f45 := f34.same W39
  have Z46 : n0 ≤ h39.size := Nat.le_trans Z35 (Keep.of_wr W39).1
  have KP47 : Keep h0 h39 [a1] := KP36.wr W39 (Or.inl (List.mem_of_getElem? (i := 0) rfl))
  have N48 := Fr.snoc X39 N37 g1
  obtain ⟨fs, hr, hrun, hended, hW, hsame⟩ := X39.leave (v := none) (fun _ => rfl)
  have KF := K40
  rw [hG] at KF
  refine ⟨_, _, KF _ ?_, hrun, hended, _, _, rfl, ?_, ⟨_, rfl⟩, hW, hsame.mono (by decide) (by decide)⟩
  · show Steps p.tables e below (T39.setTop (mkF m 26 #[.val (.ref a1), .val .null, .val (.long q2), .second, .val (.int p3), .val (.int p4)] [])) _
    exact X39.returnOut hx Bd.returns (hb hby d1_26) hr
  · show Q1 Z a1 p3 p4 h0 n0 _ T39.heap _
    rw [e39]
    exact ⟨rfl, N48, KP47, f41, f42, f44, f45⟩
def Q4 (a1 : Addr) (p1 : Int32) (h0 : Heap) (n0 : Nat) (v : Option Value) (h : Heap) (L : List Loc) : Prop := v = some (.int (if p1 = (0 : Int32) then (1 : Int32) else (0 : Int32))) ∧ Fr n0 L ∧ h = h0
theorem d4_0 : decode prog_7_method_4_code 0 = .ok (.aload_n 0, 1) := by decide +kernel
theorem d4_1 : decode prog_7_method_4_code 1 = .ok (.getfield 17, 3) := by decide +kernel
theorem d4_4 : decode prog_7_method_4_code 4 = .ok (.ifCond .ne 7, 3) := by decide +kernel
theorem d4_7 : decode prog_7_method_4_code 7 = .ok (.iconst 1, 1) := by decide +kernel
theorem d4_8 : decode prog_7_method_4_code 8 = .ok (.goto 4, 3) := by decide +kernel
theorem d4_11 : decode prog_7_method_4_code 11 = .ok (.iconst 0, 1) := by decide +kernel
theorem d4_12 : decode prog_7_method_4_code 12 = .ok (.ireturn, 1) := by decide +kernel
theorem ef_rm4 (m : MethodId) (x0 : Addr) : entryFrame m #[(.ref x0)] 1 = mkF m 0 #[.val (.ref x0)] [] := by first | (simp [entryFrame, mkF, argsToLocals, Value.category]; done) | rfl
set_option maxRecDepth 65536 in
set_option maxHeartbeats 40000000 in
theorem rm4 (l : Launch) (Z : State) (a0 : Array Value) (hw : ∀ d ∈ tables_1, d.before a0 Z = true) (ws : List Jvm.Cond) (a1 : Addr) (p1 : Int32) (h0 : Heap) (n0 : Nat) (Z0 : n0 ≤ h0.size) (F1 : Fld Z h0 a1 "org/driftsieve/ItemRecord$Copy" "length" "I" (.int p1)) :
    MetFree l (⟨"org/driftsieve/ItemRecord$Copy", "isDeletion", "()Z"⟩ : MethodName) (head1 (Jvm.Cond.code (⟨"org/driftsieve/ItemRecord$Copy", "isDeletion", "()Z"⟩ : MethodName) prog_7_method_4_code 1 (some .boolean) :: ws) ({ frames := 0, cells := 0, slots := 0, locals := 0 } : Room)) (fun a U => a = #[(.ref a1)] ∧ Z.Warmed39 U.vm ∧ U.heap = h0) (fun _ _ _ _ _ => True) (fun _ U o U' => ∃ v L, o = .returned v ∧ Q4 a1 p1 h0 n0 v U'.heap L ∧ FrameEnd U o U' L ({ frames := 0, cells := 0, slots := 0, locals := 0 } : Room).cells ({ frames := 0, cells := 0, slots := 0, locals := 0 } : Room).slots) := by
  refine MetFree.of_bodySF (plainFor_of_name pn_org_driftsieve_ItemRecord_Copy) hisR ?_
  intro p e s m args below meth c s₁ Bd hml0 hP hK
  obtain ⟨rfl, hZ, hh⟩ := hP
  have hx := Bd.exec
  have hby := Bd.bytes
  have hml : c.maxLocals = 1 := hml0
  have hown : s.vm.findClass "org/driftsieve/ItemRecord$Copy" = some m.cls := findClass_of_methodNamed Bd.named
  have hnm := (name_of_methodNamed Bd.named Bd.method).1
  have X0 : Stand p l e ({ frames := 0, cells := 0, slots := 0, locals := 0 } : Room) s m #[(.ref a1)] below meth c s₁ [] 0 0 := Stand.of_body Bd
  have e0 : s₁.heap = h0 := by rw [← hh, Bd.state]; rfl
  have N0 := Fr.nil n0
  have KP0 : Keep h0 h0 [] := Keep.refl h0 _
  obtain ⟨G, hG⟩ : ∃ G : State, G = s₁.setTop (entryFrame m #[(.ref a1)] 1) := ⟨_, rfl⟩
  have pre0 : ∀ t, Steps p.tables e below (s₁.setTop (mkF m 0 #[.val (.ref a1)] [])) t → Steps p.tables e below G t := fun t k => hG ▸ castTop (ef_rm4 m a1) k
  have K1 : ∀ t, Steps p.tables e below (s₁.setTop (mkF m 1 #[.val (.ref a1)] [(.ref a1)])) t → Steps p.tables e below G t := by
    intro t k
    refine pre0 t ?_
    show Steps p.tables e below (s₁.setTop (mkF m 0 #[.val (.ref a1)] [])) _
    refine XS.aloadN X0.here hx rfl (hb hby d4_0) rfl rfl ?_
    show Steps p.tables e below (s₁.setTop (mkF m 1 #[.val (.ref a1)] [(.ref a1)])) _
    exact k
  obtain ⟨T2, X2, e2, st2⟩ := getF X0 hx hZ hown (host := "") (Or.inl (hw _ (List.mem_of_getElem? (i := 18) rfl))) Via.refl e0 F1 (g := (mkF m 1 #[.val (.ref a1)] [(.ref a1)])) rfl rfl (hb hby d4_1)
  have K3 : ∀ t, Steps p.tables e below (T2.setTop (mkF m 4 #[.val (.ref a1)] [(.int p1)])) t → Steps p.tables e below G t := fun t k => K1 t (st2 t k)
  by_cases hc4 : p1 = (0 : Int32)
  · obtain ⟨fs, hr, hrun, hended, hW, hsame⟩ := X2.leave (v := some (.int (1 : Int32))) (fun h => by rw [Bd.returns] at h; cases h)
    have KF := K3
    rw [hG] at KF
    refine ⟨_, _, KF _ ?_, hrun, hended, _, _, rfl, ?_, ⟨_, rfl⟩, hW, hsame.mono (by decide) (by decide)⟩
    · show Steps p.tables e below (T2.setTop (mkF m 4 #[.val (.ref a1)] [(.int p1)])) _
      refine XS.ifNo X2.here hx rfl (hb hby d4_4) rfl ((if0 _ _).trans (teq hc4).2) ?_
      show Steps p.tables e below (T2.setTop (mkF m 7 #[.val (.ref a1)] [])) _
      refine XS.iconst X2.here hx rfl (hb hby d4_7) ?_
      show Steps p.tables e below (T2.setTop (mkF m 8 #[.val (.ref a1)] [(.int (1 : Int32))])) _
      refine XS.goto X2.here hx rfl (pc0 := 8) (pc' := 12) rfl (hb hby d4_8) (by decide) (by decide) ?_
      show Steps p.tables e below (T2.setTop (mkF m 12 #[.val (.ref a1)] [(.int (1 : Int32))])) _
      exact retN X2 hx (t := .boolean) Bd.returns (by simp) (hb hby d4_12) hr
    · show Q4 a1 p1 h0 n0 _ T2.heap _
      rw [e2]
      exact ⟨by simp only [if_pos hc4], N0, rfl⟩
  · obtain ⟨fs, hr, hrun, hended, hW, hsame⟩ := X2.leave (v := some (.int (0 : Int32))) (fun h => by rw [Bd.returns] at h; cases h)
    have KF := K3
    rw [hG] at KF
    refine ⟨_, _, KF _ ?_, hrun, hended, _, _, rfl, ?_, ⟨_, rfl⟩, hW, hsame.mono (by decide) (by decide)⟩
    · show Steps p.tables e below (T2.setTop (mkF m 4 #[.val (.ref a1)] [(.int p1)])) _
      refine XS.ifYes X2.here hx rfl (pc0 := 4) (pc' := 11) rfl (hb hby d4_4) rfl ((if0 _ _).trans (feq hc4).2) (by decide) (by decide) ?_
      show Steps p.tables e below (T2.setTop (mkF m 11 #[.val (.ref a1)] [])) _
      refine XS.iconst X2.here hx rfl (hb hby d4_11) ?_
      show Steps p.tables e below (T2.setTop (mkF m 12 #[.val (.ref a1)] [(.int (0 : Int32))])) _
      exact retN X2 hx (t := .boolean) Bd.returns (by simp) (hb hby d4_12) hr
    · show Q4 a1 p1 h0 n0 _ T2.heap _
      rw [e2]
      exact ⟨by simp only [if_neg hc4], N0, rfl⟩
def Q6 (a1 : Addr) (p1 : Int32) (h0 : Heap) (n0 : Nat) (v : Option Value) (h : Heap) (L : List Loc) : Prop := v = some (.int p1) ∧ Fr n0 L ∧ h = h0
theorem d6_0 : decode prog_7_method_14_code 0 = .ok (.aload_n 0, 1) := by decide +kernel
theorem d6_1 : decode prog_7_method_14_code 1 = .ok (.getfield 17, 3) := by decide +kernel
theorem d6_4 : decode prog_7_method_14_code 4 = .ok (.ireturn, 1) := by decide +kernel
theorem ef_rm6 (m : MethodId) (x0 : Addr) : entryFrame m #[(.ref x0)] 1 = mkF m 0 #[.val (.ref x0)] [] := by first | (simp [entryFrame, mkF, argsToLocals, Value.category]; done) | rfl
set_option maxRecDepth 65536 in
set_option maxHeartbeats 40000000 in
theorem rm6 (l : Launch) (Z : State) (a0 : Array Value) (hw : ∀ d ∈ tables_1, d.before a0 Z = true) (ws : List Jvm.Cond) (a1 : Addr) (p1 : Int32) (h0 : Heap) (n0 : Nat) (Z0 : n0 ≤ h0.size) (F1 : Fld Z h0 a1 "org/driftsieve/ItemRecord$Copy" "length" "I" (.int p1)) :
    MetFree l (⟨"org/driftsieve/ItemRecord$Copy", "length", "()I"⟩ : MethodName) (head1 (Jvm.Cond.code (⟨"org/driftsieve/ItemRecord$Copy", "length", "()I"⟩ : MethodName) prog_7_method_14_code 1 (some .int) :: ws) ({ frames := 0, cells := 0, slots := 0, locals := 0 } : Room)) (fun a U => a = #[(.ref a1)] ∧ Z.Warmed39 U.vm ∧ U.heap = h0) (fun _ _ _ _ _ => True) (fun _ U o U' => ∃ v L, o = .returned v ∧ Q6 a1 p1 h0 n0 v U'.heap L ∧ FrameEnd U o U' L ({ frames := 0, cells := 0, slots := 0, locals := 0 } : Room).cells ({ frames := 0, cells := 0, slots := 0, locals := 0 } : Room).slots) := by
  refine MetFree.of_bodySF (plainFor_of_name pn_org_driftsieve_ItemRecord_Copy) hisR ?_
  intro p e s m args below meth c s₁ Bd hml0 hP hK
  obtain ⟨rfl, hZ, hh⟩ := hP
  have hx := Bd.exec
  have hby := Bd.bytes
  have hml : c.maxLocals = 1 := hml0
  have hown : s.vm.findClass "org/driftsieve/ItemRecord$Copy" = some m.cls := findClass_of_methodNamed Bd.named
  have hnm := (name_of_methodNamed Bd.named Bd.method).1
  have X0 : Stand p l e ({ frames := 0, cells := 0, slots := 0, locals := 0 } : Room) s m #[(.ref a1)] below meth c s₁ [] 0 0 := Stand.of_body Bd
  have e0 : s₁.heap = h0 := by rw [← hh, Bd.state]; rfl
  have N0 := Fr.nil n0
  have KP0 : Keep h0 h0 [] := Keep.refl h0 _
  obtain ⟨G, hG⟩ : ∃ G : State, G = s₁.setTop (entryFrame m #[(.ref a1)] 1) := ⟨_, rfl⟩
  have pre0 : ∀ t, Steps p.tables e below (s₁.setTop (mkF m 0 #[.val (.ref a1)] [])) t → Steps p.tables e below G t := fun t k => hG ▸ castTop (ef_rm6 m a1) k
  have K1 : ∀ t, Steps p.tables e below (s₁.setTop (mkF m 1 #[.val (.ref a1)] [(.ref a1)])) t → Steps p.tables e below G t := by
    intro t k
    refine pre0 t ?_
    show Steps p.tables e below (s₁.setTop (mkF m 0 #[.val (.ref a1)] [])) _
    refine XS.aloadN X0.here hx rfl (hb hby d6_0) rfl rfl ?_
    show Steps p.tables e below (s₁.setTop (mkF m 1 #[.val (.ref a1)] [(.ref a1)])) _
    exact k
  obtain ⟨T2, X2, e2, st2⟩ := getF X0 hx hZ hown (host := "") (Or.inl (hw _ (List.mem_of_getElem? (i := 18) rfl))) Via.refl e0 F1 (g := (mkF m 1 #[.val (.ref a1)] [(.ref a1)])) rfl rfl (hb hby d6_1)
  have K3 : ∀ t, Steps p.tables e below (T2.setTop (mkF m 4 #[.val (.ref a1)] [(.int p1)])) t → Steps p.tables e below G t := fun t k => K1 t (st2 t k)
  obtain ⟨fs, hr, hrun, hended, hW, hsame⟩ := X2.leave (v := some (.int p1)) (fun h => by rw [Bd.returns] at h; cases h)
  have KF := K3
  rw [hG] at KF
  refine ⟨_, _, KF _ ?_, hrun, hended, _, _, rfl, ?_, ⟨_, rfl⟩, hW, hsame.mono (by decide) (by decide)⟩
  · show Steps p.tables e below (T2.setTop (mkF m 4 #[.val (.ref a1)] [(.int p1)])) _
    exact own_retI X2 hx Bd.returns (hb hby d6_4) hr
  · show Q6 a1 p1 h0 n0 _ T2.heap _
    rw [e2]
    exact ⟨rfl, N0, rfl⟩
def Q5 (Z : State) (p1 : Int32) (h0 : Heap) (n0 : Nat) (v : Option Value) (h : Heap) (L : List Loc) : Prop := ∃ b : Addr, v = some (.ref b) ∧ Fr n0 L ∧ Keep h0 h [] ∧ h0.size ≤ b ∧ Exa Z h b "org/driftsieve/ItemRecord$Copy" ∧ Fld Z h b "org/driftsieve/ItemRecord$Copy" "length" "I" (.int p1)
theorem d5_0 : decode prog_7_method_7_code 0 = .ok (.new 8, 3) := by decide +kernel
theorem d5_3 : decode prog_7_method_7_code 3 = .ok (.dup, 1) := by decide +kernel
theorem d5_4 : decode prog_7_method_7_code 4 = .ok (.aload_n 0, 1) := by decide +kernel
theorem d5_5 : decode prog_7_method_7_code 5 = .ok (.getfield 7, 3) := by decide +kernel
theorem d5_8 : decode prog_7_method_7_code 8 = .ok (.lload_n 1, 1) := by decide +kernel
theorem d5_9 : decode prog_7_method_7_code 9 = .ok (.aload_n 0, 1) := by decide +kernel
theorem d5_10 : decode prog_7_method_7_code 10 = .ok (.getfield 17, 3) := by decide +kernel
theorem d5_13 : decode prog_7_method_7_code 13 = .ok (.aload_n 0, 1) := by decide +kernel
theorem d5_14 : decode prog_7_method_7_code 14 = .ok (.getfield 21, 3) := by decide +kernel
theorem d5_17 : decode prog_7_method_7_code 17 = .ok (.invokespecial 27, 3) := by decide +kernel
theorem d5_20 : decode prog_7_method_7_code 20 = .ok (.areturn, 1) := by decide +kernel
theorem pd_1 : parseMethodDescriptor "(Lorg/driftsieve/VersionId;JII)V" = some ⟨[(.object "org/driftsieve/VersionId"), .long, .int, .int], none⟩ := by decide +kernel
theorem ef_rm5 (m : MethodId) (x0 : Addr) (x1 : Int64) : entryFrame m #[(.ref x0), (.long x1)] 3 = mkF m 0 #[.val (.ref x0), .val (.long x1), .second] [] := by first | (simp [entryFrame, mkF, argsToLocals, Value.category]; done) | rfl
set_option maxRecDepth 65536 in
set_option maxHeartbeats 40000000 in
theorem rm5 (l : Launch) (Z : State) (a0 : Array Value) (hw : ∀ d ∈ tables_1, d.before a0 Z = true) (ws : List Jvm.Cond) (a1 : Addr) (q1 : Int64) (p1 p2 : Int32) (h0 : Heap) (n0 : Nat) (Z0 : n0 ≤ h0.size) (Fv : Fld Z h0 a1 "org/driftsieve/ItemRecord$Copy" "version" "Lorg/driftsieve/VersionId;" .null) (Fl : Fld Z h0 a1 "org/driftsieve/ItemRecord$Copy" "length" "I" (.int p1)) (Fc : Fld Z h0 a1 "org/driftsieve/ItemRecord$Copy" "checksum" "I" (.int p2)) :
    MetFree l (⟨"org/driftsieve/ItemRecord$Copy", "withOffset", "(J)Lorg/driftsieve/ItemRecord$Copy;"⟩ : MethodName) (head1 (Jvm.Cond.code (⟨"org/driftsieve/ItemRecord$Copy", "withOffset", "(J)Lorg/driftsieve/ItemRecord$Copy;"⟩ : MethodName) prog_7_method_7_code 3 (some (.object "org/driftsieve/ItemRecord$Copy")) :: ws) ({ frames := 3, cells := 1, slots := 4, locals := 42 } : Room)) (fun a U => a = #[(.ref a1), (.long q1)] ∧ Z.Warmed39 U.vm ∧ U.heap = h0) (fun _ _ _ _ _ => True) (fun _ U o U' => ∃ v L, o = .returned v ∧ Q5 Z p1 h0 n0 v U'.heap L ∧ FrameEnd U o U' L ({ frames := 3, cells := 1, slots := 4, locals := 42 } : Room).cells ({ frames := 3, cells := 1, slots := 4, locals := 42 } : Room).slots) := by
  refine MetFree.of_bodySF (plainFor_of_name pn_org_driftsieve_ItemRecord_Copy) hisR ?_
  intro p e s m args below meth c s₁ Bd hml0 hP hK
  obtain ⟨rfl, hZ, hh⟩ := hP
  have hx := Bd.exec
  have hby := Bd.bytes
  have hml : c.maxLocals = 3 := hml0
  have hown : s.vm.findClass "org/driftsieve/ItemRecord$Copy" = some m.cls := findClass_of_methodNamed Bd.named
  have hnm := (name_of_methodNamed Bd.named Bd.method).1
  have X0 : Stand p l e ({ frames := 3, cells := 1, slots := 4, locals := 42 } : Room) s m #[(.ref a1), (.long q1)] below meth c s₁ [] 0 0 := Stand.of_body Bd
  have e0 : s₁.heap = h0 := by rw [← hh, Bd.state]; rfl
  have N0 := Fr.nil n0
  have KP0 : Keep h0 h0 [] := Keep.refl h0 _
  obtain ⟨G, hG⟩ : ∃ G : State, G = s₁.setTop (entryFrame m #[(.ref a1), (.long q1)] 3) := ⟨_, rfl⟩
  have pre0 : ∀ t, Steps p.tables e below (s₁.setTop (mkF m 0 #[.val (.ref a1), .val (.long q1), .second] [])) t → Steps p.tables e below G t := fun t k => hG ▸ castTop (ef_rm5 m a1 q1) k
  obtain ⟨T1, h1, X1, e1, E1, A1, D1, -, st1⟩ := newO X0 hx hZ hown (hw _ (List.mem_of_getElem? (i := 32) rfl)) (hw _ (List.mem_of_getElem? (i := 1) rfl)) (hw _ (List.mem_of_getElem? (i := 2) rfl)) e0 (g := (mkF m 0 #[.val (.ref a1), .val (.long q1), .second] [])) rfl (hb hby d5_0) (by decide) (by decide)
  obtain ⟨b1, g1⟩ : ∃ z, z = h0.size := ⟨_, rfl⟩
  rw [← g1] at A1 D1 st1
  have ne_a1_b1 : a1 ≠ b1 := Nat.ne_of_lt (Nat.lt_of_lt_of_le Fv.lt (Nat.le_of_eq g1.symm))
  have g_b1 : n0 ≤ b1 := Nat.le_trans Z0 (Nat.le_of_eq g1.symm)
  have sz_b1 : h0.size ≤ b1 := Nat.le_trans KP0.1 (Nat.le_of_eq g1.symm)
  have f2 := Fv.ext E1
  have f3 := Fl.ext E1
  have f4 := Fc.ext E1
  have Z5 : n0 ≤ h1.size := Nat.le_trans Z0 E1.1
  have KP6 : Keep h0 h1 [] := KP0.ext E1
  have K7 : ∀ t, Steps p.tables e below (T1.setTop (mkF m 3 #[.val (.ref a1), .val (.long q1), .second] [(.ref b1)])) t → Steps p.tables e below G t := fun t k => pre0 t (st1 t k)
  have f8 : Fld Z h1 b1 "org/driftsieve/ItemRecord$Copy" "version" "Lorg/driftsieve/VersionId;" .null := D1 (Or.inr (hw _ (List.mem_of_getElem? (i := 15) rfl))) (ty := (.object "org/driftsieve/VersionId")) (by decide)
  have f9 : Fld Z h1 b1 "org/driftsieve/ItemRecord$Copy" "offset" "J" (.long (0 : Int64)) := D1 (Or.inr (hw _ (List.mem_of_getElem? (i := 17) rfl))) (ty := .long) (by decide)
  have f10 : Fld Z h1 b1 "org/driftsieve/ItemRecord$Copy" "length" "I" (.int (0 : Int32)) := D1 (Or.inr (hw _ (List.mem_of_getElem? (i := 19) rfl))) (ty := .int) (by decide)
  have f11 : Fld Z h1 b1 "org/driftsieve/ItemRecord$Copy" "checksum" "I" (.int (0 : Int32)) := D1 (Or.inr (hw _ (List.mem_of_getElem? (i := 21) rfl))) (ty := .int) (by decide)
  have K12 : ∀ t, Steps p.tables e below (T1.setTop (mkF m 5 #[.val (.ref a1), .val (.long q1), .second] [(.ref a1), (.ref b1), (.ref b1)])) t → Steps p.tables e below G t := by
    intro t k
    refine K7 t ?_
    show Steps p.tables e below (T1.setTop (mkF m 3 #[.val (.ref a1), .val (.long q1), .second] [(.ref b1)])) _
    refine XS.dup X1.here hx rfl (hb hby d5_3) rfl rfl ?_
    show Steps p.tables e below (T1.setTop (mkF m 4 #[.val (.ref a1), .val (.long q1), .second] [(.ref b1), (.ref b1)])) _
    refine XS.aloadN X1.here hx rfl (hb hby d5_4) rfl rfl ?_
    show Steps p.tables e below (T1.setTop (mkF m 5 #[.val (.ref a1), .val (.long q1), .second] [(.ref a1), (.ref b1), (.ref b1)])) _
    exact k
  obtain ⟨T13, X13, e13, st13⟩ := getF X1 hx hZ hown (host := "") (Or.inl (hw _ (List.mem_of_getElem? (i := 14) rfl))) Via.refl e1 f2 (g := (mkF m 5 #[.val (.ref a1), .val (.long q1), .second] [(.ref a1), (.ref b1), (.ref b1)])) rfl rfl (hb hby d5_5)
  have K14 : ∀ t, Steps p.tables e below (T13.setTop (mkF m 8 #[.val (.ref a1), .val (.long q1), .second] [.null, (.ref b1), (.ref b1)])) t → Steps p.tables e below G t := fun t k => K12 t (st13 t k)
  have K15 : ∀ t, Steps p.tables e below (T13.setTop (mkF m 10 #[.val (.ref a1), .val (.long q1), .second] [(.ref a1), (.long q1), .null, (.ref b1), (.ref b1)])) t → Steps p.tables e below G t := by
    intro t k
    refine K14 t ?_
    show Steps p.tables e below (T13.setTop (mkF m 8 #[.val (.ref a1), .val (.long q1), .second] [.null, (.ref b1), (.ref b1)])) _
    refine XS.lloadN X13.here hx rfl (hb hby d5_8) rfl ?_
    show Steps p.tables e below (T13.setTop (mkF m 9 #[.val (.ref a1), .val (.long q1), .second] [(.long q1), .null, (.ref b1), (.ref b1)])) _
    refine XS.aloadN X13.here hx rfl (hb hby d5_9) rfl rfl ?_
    show Steps p.tables e below (T13.setTop (mkF m 10 #[.val (.ref a1), .val (.long q1), .second] [(.ref a1), (.long q1), .null, (.ref b1), (.ref b1)])) _
    exact k
  obtain ⟨T16, X16, e16, st16⟩ := getF X13 hx hZ hown (host := "") (Or.inl (hw _ (List.mem_of_getElem? (i := 18) rfl))) Via.refl e13 f3 (g := (mkF m 10 #[.val (.ref a1), .val (.long q1), .second] [(.ref a1), (.long q1), .null, (.ref b1), (.ref b1)])) rfl rfl (hb hby d5_10)
  have K17 : ∀ t, Steps p.tables e below (T16.setTop (mkF m 13 #[.val (.ref a1), .val (.long q1), .second] [(.int p1), (.long q1), .null, (.ref b1), (.ref b1)])) t → Steps p.tables e below G t := fun t k => K15 t (st16 t k)
  have K18 : ∀ t, Steps p.tables e below (T16.setTop (mkF m 14 #[.val (.ref a1), .val (.long q1), .second] [(.ref a1), (.int p1), (.long q1), .null, (.ref b1), (.ref b1)])) t → Steps p.tables e below G t := by
    intro t k
    refine K17 t ?_
    show Steps p.tables e below (T16.setTop (mkF m 13 #[.val (.ref a1), .val (.long q1), .second] [(.int p1), (.long q1), .null, (.ref b1), (.ref b1)])) _
    refine XS.aloadN X16.here hx rfl (hb hby d5_13) rfl rfl ?_
    show Steps p.tables e below (T16.setTop (mkF m 14 #[.val (.ref a1), .val (.long q1), .second] [(.ref a1), (.int p1), (.long q1), .null, (.ref b1), (.ref b1)])) _
    exact k
  obtain ⟨T19, X19, e19, st19⟩ := getF X16 hx hZ hown (host := "") (Or.inl (hw _ (List.mem_of_getElem? (i := 20) rfl))) Via.refl e16 f4 (g := (mkF m 14 #[.val (.ref a1), .val (.long q1), .second] [(.ref a1), (.int p1), (.long q1), .null, (.ref b1), (.ref b1)])) rfl rfl (hb hby d5_14)
  have K20 : ∀ t, Steps p.tables e below (T19.setTop (mkF m 17 #[.val (.ref a1), .val (.long q1), .second] [(.int p2), (.int p1), (.long q1), .null, (.ref b1), (.ref b1)])) t → Steps p.tables e below G t := fun t k => K18 t (st19 t k)
  obtain ⟨_, _, ⟨T21, L21, k21, n21⟩, -, X21, ⟨Lc21, hQ21, l21, y21, z21⟩, st21⟩ := X19.specialBack hx (y := (⟨"org/driftsieve/ItemRecord$Copy", "<init>", "(Lorg/driftsieve/VersionId;JII)V"⟩ : MethodName)) rfl hown (mvT hZ (hw _ (List.mem_of_getElem? (i := 33) rfl))) (mvT hZ (hw _ (List.mem_of_getElem? (i := 4) rfl))) (mvT hZ (hw _ (List.mem_of_getElem? (i := 5) rfl))) (by decide) (backOf (W := 1) (rm1 l Z a0 hw [] b1 q1 p1 p2 h1 n0 Z5 A1 f8 f9 f10 f11 g_b1) hZ (hw _ (List.mem_of_getElem? (i := 5) rfl)) (hw _ (List.mem_of_getElem? (i := 2) rfl)) (by decide) (by decide)) (g := (mkF m 17 #[.val (.ref a1), .val (.long q1), .second] [(.int p2), (.int p1), (.long q1), .null, (.ref b1), (.ref b1)])) rfl (by rw [hml]; rfl) (Steps.refl _) (a := b1) (argsL := [.null, (.long q1), (.int p1), (.int p2)]) (rest := [(.ref b1)]) (lenOf pd_1 rfl) rfl (by show 2 * 0 + _ ≤ _; exact Nat.le_of_eq rfl) (hb hby d5_17) (fun _ _ => ⟨rfl, e19, (by decide : 1 + 0 ≤ _), (by decide : 4 + 0 ≤ _)⟩)
  dsimp only [Pt.U, Pt.locs, Pt.cells, Pt.slots] at X21 l21 y21 z21 st21 hQ21
  subst l21 y21 z21
  obtain ⟨rfl, Nq21, K21, E21', Fv21, Fl21, Fc21⟩ := hQ21
  have N22 := Fr.app N0 Nq21
  have f23 := f2.keep K21 (ninS ne_a1_b1 nin0)
  have f24 := f3.keep K21 (ninS ne_a1_b1 nin0)
  have f25 := f4.keep K21 (ninS ne_a1_b1 nin0)
  have f26 := A1.keep K21
  have Z27 : n0 ≤ T21.heap.size := Nat.le_trans Z5 K21.1
  have KP28 : Keep h0 T21.heap [] := KP6.trans K21 (allS (Or.inr sz_b1) all0)
  have K29 : ∀ t, Steps p.tables e below (T21.setTop (mkF m 20 #[.val (.ref a1), .val (.long q1), .second] [(.ref b1)])) t → Steps p.tables e below G t := fun t k => K20 t (st21.trans k)
  obtain ⟨fs, hr, hrun, hended, hW, hsame⟩ := X21.leave (v := some (.ref b1)) (fun h => by rw [Bd.returns] at h; cases h)
  have KF := K29
  rw [hG] at KF
  refine ⟨_, _, KF _ ?_, hrun, hended, _, _, rfl, ?_, ⟨_, rfl⟩, hW, hsame.mono (by decide) (by decide)⟩
  · show Steps p.tables e below (T21.setTop (mkF m 20 #[.val (.ref a1), .val (.long q1), .second] [(.ref b1)])) _
    exact own_retA X21 hx Bd.returns rfl rfl rfl (hb hby d5_20) hr
  · show Q5 Z p1 h0 n0 _ T21.heap _
    exact ⟨b1, rfl, N22, KP28, sz_b1, E21', Fl21⟩
def Q0 (n0 : Nat) (v : Option Value) (h : Heap) (L : List Loc) : Prop := v = some (.int 1) ∧ Fr n0 L
theorem pn_org_driftsieve_CopyIsDeletionPinLaw : plainName "org/driftsieve/CopyIsDeletionPinLaw" = true := by first | (simp [plainName, overriddenIn]; done) | decide +kernel
theorem pd_2 : parseMethodDescriptor "()Z" = some ⟨[], some .boolean⟩ := by decide +kernel
theorem pd_3 : parseMethodDescriptor "(J)Lorg/driftsieve/ItemRecord$Copy;" = some ⟨[.long], some (.object "org/driftsieve/ItemRecord$Copy")⟩ := by decide +kernel
theorem pd_4 : parseMethodDescriptor "()I" = some ⟨[], some .int⟩ := by decide +kernel
theorem ef_rm0 (m : MethodId) (x0 : Int64) (x1 : Int32) (x2 : Int32) (x3 : Int32) (x4 : Int64) : entryFrame m #[(.long x0), (.int x1), (.int x2), (.int x3), (.long x4)] maxLocals = mkF m 0 #[.val (.long x0), .second, .val (.int x1), .val (.int x2), .val (.int x3), .val (.long x4), .second, .unset, .unset, .unset, .unset, .unset, .unset] [] := by first | (simp [entryFrame, mkF, argsToLocals, Value.category, maxLocals]; done) | rfl
set_option maxRecDepth 65536 in
set_option maxHeartbeats 40000000 in
theorem rm0 (l : Launch) (Z : State) (a0 : Array Value) (hw : ∀ d ∈ tables_1, d.before a0 Z = true) (ws : List Jvm.Cond) (q1 : Int64) (p2 p3 p4 : Int32) (q5 : Int64) (h0 : Heap) (n0 : Nat) (Z0 : n0 ≤ h0.size) :
    MetFree l x (head1 (Jvm.Cond.code x code maxLocals ret :: ws) room_1) (fun a U => a = #[(.long q1), (.int p2), (.int p3), (.int p4), (.long q5)] ∧ Z.Warmed39 U.vm ∧ U.heap = h0) (fun _ _ _ _ _ => True) (fun _ U o U' => ∃ v L, o = .returned v ∧ Q0 n0 v U'.heap L ∧ FrameEnd U o U' L room_1.cells room_1.slots) := by
  refine MetFree.of_bodySF (plainFor_of_name pn_org_driftsieve_CopyIsDeletionPinLaw) hisR ?_
  intro p e s m args below meth c s₁ Bd hml0 hP hK
  obtain ⟨rfl, hZ, hh⟩ := hP
  have hx := Bd.exec
  have hby := Bd.bytes
  have hml : c.maxLocals = 13 := hml0
  have hown : s.vm.findClass "org/driftsieve/CopyIsDeletionPinLaw" = some m.cls := findClass_of_methodNamed Bd.named
  have hnm := (name_of_methodNamed Bd.named Bd.method).1
  have X0 : Stand p l e room_1 s m #[(.long q1), (.int p2), (.int p3), (.int p4), (.long q5)] below meth c s₁ [] 0 0 := Stand.of_body Bd
  have e0 : s₁.heap = h0 := by rw [← hh, Bd.state]; rfl
  have N0 := Fr.nil n0
  have KP0 : Keep h0 h0 [] := Keep.refl h0 _
  obtain ⟨G, hG⟩ : ∃ G : State, G = s₁.setTop (entryFrame m #[(.long q1), (.int p2), (.int p3), (.int p4), (.long q5)] maxLocals) := ⟨_, rfl⟩
  have pre0 : ∀ t, Steps p.tables e below (s₁.setTop (mkF m 0 #[.val (.long q1), .second, .val (.int p2), .val (.int p3), .val (.int p4), .val (.long q5), .second, .unset, .unset, .unset, .unset, .unset, .unset] [])) t → Steps p.tables e below G t := fun t k => hG ▸ castTop (ef_rm0 m q1 p2 p3 p4 q5) k
  have K1 : ∀ t, Steps p.tables e below (s₁.setTop (mkF m 4 #[.val (.long q1), .second, .val (.int p2), .val (.int p3), .val (.int p4), .val (.long q5), .second, .unset, .unset, .unset, .unset, .unset, .unset] [(.int (p4 &&& (1 : Int32)))])) t → Steps p.tables e below G t := by
    intro t k
    refine pre0 t ?_
    show Steps p.tables e below (s₁.setTop (mkF m 0 #[.val (.long q1), .second, .val (.int p2), .val (.int p3), .val (.int p4), .val (.long q5), .second, .unset, .unset, .unset, .unset, .unset, .unset] [])) _
    refine XS.iload X0.here hx rfl (hb hby at_0) rfl ?_
    show Steps p.tables e below (s₁.setTop (mkF m 2 #[.val (.long q1), .second, .val (.int p2), .val (.int p3), .val (.int p4), .val (.long q5), .second, .unset, .unset, .unset, .unset, .unset, .unset] [(.int p4)])) _
    refine XS.iconst X0.here hx rfl (hb hby at_2) ?_
    show Steps p.tables e below (s₁.setTop (mkF m 3 #[.val (.long q1), .second, .val (.int p2), .val (.int p3), .val (.int p4), .val (.long q5), .second, .unset, .unset, .unset, .unset, .unset, .unset] [(.int (1 : Int32)), (.int p4)])) _
    refine XS.iand X0.here hx rfl (hb hby at_3) rfl ?_
    show Steps p.tables e below (s₁.setTop (mkF m 4 #[.val (.long q1), .second, .val (.int p2), .val (.int p3), .val (.int p4), .val (.long q5), .second, .unset, .unset, .unset, .unset, .unset, .unset] [(.int (p4 &&& (1 : Int32)))])) _
    exact k
  have K3 : ∀ t, Steps p.tables e below (s₁.setTop (mkF m 12 #[.val (.long q1), .second, .val (.int p2), .val (.int p3), .val (.int p4), .val (.long q5), .second, .unset, .unset, .unset, .unset, .unset, .unset] [(.int (if (p4 &&& (1 : Int32)) = (0 : Int32) then p2 else (0 : Int32)))])) t → Steps p.tables e below G t := by
    intro t k
    refine K1 t ?_
    by_cases hc2 : (p4 &&& (1 : Int32)) = (0 : Int32)
    · show Steps p.tables e below (s₁.setTop (mkF m 4 #[.val (.long q1), .second, .val (.int p2), .val (.int p3), .val (.int p4), .val (.long q5), .second, .unset, .unset, .unset, .unset, .unset, .unset] [(.int (p4 &&& (1 : Int32)))])) _
      refine XS.ifYes X0.here hx rfl (pc0 := 4) (pc' := 11) rfl (hb hby at_4) rfl ((if0 _ _).trans (teq hc2).1) (by decide) (by decide) ?_
      show Steps p.tables e below (s₁.setTop (mkF m 11 #[.val (.long q1), .second, .val (.int p2), .val (.int p3), .val (.int p4), .val (.long q5), .second, .unset, .unset, .unset, .unset, .unset, .unset] [])) _
      refine XS.iloadN X0.here hx rfl (hb hby at_11) rfl ?_
      show Steps p.tables e below (s₁.setTop (mkF m 12 #[.val (.long q1), .second, .val (.int p2), .val (.int p3), .val (.int p4), .val (.long q5), .second, .unset, .unset, .unset, .unset, .unset, .unset] [(.int p2)])) _
      simp only [if_pos hc2] at k
      exact k
    · show Steps p.tables e below (s₁.setTop (mkF m 4 #[.val (.long q1), .second, .val (.int p2), .val (.int p3), .val (.int p4), .val (.long q5), .second, .unset, .unset, .unset, .unset, .unset, .unset] [(.int (p4 &&& (1 : Int32)))])) _
      refine XS.ifNo X0.here hx rfl (hb hby at_4) rfl ((if0 _ _).trans (feq hc2).1) ?_
      show Steps p.tables e below (s₁.setTop (mkF m 7 #[.val (.long q1), .second, .val (.int p2), .val (.int p3), .val (.int p4), .val (.long q5), .second, .unset, .unset, .unset, .unset, .unset, .unset] [])) _
      refine XS.iconst X0.here hx rfl (hb hby at_7) ?_
      show Steps p.tables e below (s₁.setTop (mkF m 8 #[.val (.long q1), .second, .val (.int p2), .val (.int p3), .val (.int p4), .val (.long q5), .second, .unset, .unset, .unset, .unset, .unset, .unset] [(.int (0 : Int32))])) _
      refine XS.goto X0.here hx rfl (pc0 := 8) (pc' := 12) rfl (hb hby at_8) (by decide) (by decide) ?_
      show Steps p.tables e below (s₁.setTop (mkF m 12 #[.val (.long q1), .second, .val (.int p2), .val (.int p3), .val (.int p4), .val (.long q5), .second, .unset, .unset, .unset, .unset, .unset, .unset] [(.int (0 : Int32))])) _
      simp only [if_neg hc2] at k
      exact k
  obtain ⟨ln, h_ln⟩ : ∃ z : Int32, z = (if (p4 &&& (1 : Int32)) = (0 : Int32) then p2 else (0 : Int32)) := ⟨_, rfl⟩
  have K4 : ∀ t, Steps p.tables e below (s₁.setTop (mkF m 12 #[.val (.long q1), .second, .val (.int p2), .val (.int p3), .val (.int p4), .val (.long q5), .second, .unset, .unset, .unset, .unset, .unset, .unset] [(.int ln)])) t → Steps p.tables e below G t := by rw [h_ln]; exact K3
  have K5 : ∀ t, Steps p.tables e below (s₁.setTop (mkF m 14 #[.val (.long q1), .second, .val (.int p2), .val (.int p3), .val (.int p4), .val (.long q5), .second, .val (.int ln), .unset, .unset, .unset, .unset, .unset] [])) t → Steps p.tables e below G t := by
    intro t k
    refine K4 t ?_
    show Steps p.tables e below (s₁.setTop (mkF m 12 #[.val (.long q1), .second, .val (.int p2), .val (.int p3), .val (.int p4), .val (.long q5), .second, .unset, .unset, .unset, .unset, .unset, .unset] [(.int ln)])) _
    refine XS.istore X0.here hx rfl (hb hby at_12) rfl (l' := #[.val (.long q1), .second, .val (.int p2), .val (.int p3), .val (.int p4), .val (.long q5), .second, .val (.int ln), .unset, .unset, .unset, .unset, .unset]) rfl ?_
    show Steps p.tables e below (s₁.setTop (mkF m 14 #[.val (.long q1), .second, .val (.int p2), .val (.int p3), .val (.int p4), .val (.long q5), .second, .val (.int ln), .unset, .unset, .unset, .unset, .unset] [])) _
    exact k
  obtain ⟨T6, h6, X6, e6, E6, A6, D6, -, st6⟩ := newO X0 hx hZ hown (hw _ (List.mem_of_getElem? (i := 0) rfl)) (hw _ (List.mem_of_getElem? (i := 1) rfl)) (hw _ (List.mem_of_getElem? (i := 2) rfl)) e0 (g := (mkF m 14 #[.val (.long q1), .second, .val (.int p2), .val (.int p3), .val (.int p4), .val (.long q5), .second, .val (.int ln), .unset, .unset, .unset, .unset, .unset] [])) rfl (hb hby at_14) (by decide) (by decide)
  obtain ⟨b6, g6⟩ : ∃ z, z = h0.size := ⟨_, rfl⟩
  rw [← g6] at A6 D6 st6
  have g_b6 : n0 ≤ b6 := Nat.le_trans Z0 (Nat.le_of_eq g6.symm)
  have sz_b6 : h0.size ≤ b6 := Nat.le_trans KP0.1 (Nat.le_of_eq g6.symm)
  have Z7 : n0 ≤ h6.size := Nat.le_trans Z0 E6.1
  have KP8 : Keep h0 h6 [] := KP0.ext E6
  have K9 : ∀ t, Steps p.tables e below (T6.setTop (mkF m 17 #[.val (.long q1), .second, .val (.int p2), .val (.int p3), .val (.int p4), .val (.long q5), .second, .val (.int ln), .unset, .unset, .unset, .unset, .unset] [(.ref b6)])) t → Steps p.tables e below G t := fun t k => K5 t (st6 t k)
  have f10 : Fld Z h6 b6 "org/driftsieve/ItemRecord$Copy" "version" "Lorg/driftsieve/VersionId;" .null := D6 (Or.inr (hw _ (List.mem_of_getElem? (i := 15) rfl))) (ty := (.object "org/driftsieve/VersionId")) (by decide)
  have f11 : Fld Z h6 b6 "org/driftsieve/ItemRecord$Copy" "offset" "J" (.long (0 : Int64)) := D6 (Or.inr (hw _ (List.mem_of_getElem? (i := 17) rfl))) (ty := .long) (by decide)
  have f12 : Fld Z h6 b6 "org/driftsieve/ItemRecord$Copy" "length" "I" (.int (0 : Int32)) := D6 (Or.inr (hw _ (List.mem_of_getElem? (i := 19) rfl))) (ty := .int) (by decide)
  have f13 : Fld Z h6 b6 "org/driftsieve/ItemRecord$Copy" "checksum" "I" (.int (0 : Int32)) := D6 (Or.inr (hw _ (List.mem_of_getElem? (i := 21) rfl))) (ty := .int) (by decide)
  have K14 : ∀ t, Steps p.tables e below (T6.setTop (mkF m 23 #[.val (.long q1), .second, .val (.int p2), .val (.int p3), .val (.int p4), .val (.long q5), .second, .val (.int ln), .unset, .unset, .unset, .unset, .unset] [(.int p3), (.int ln), (.long q1), .null, (.ref b6), (.ref b6)])) t → Steps p.tables e below G t := by
    intro t k
    refine K9 t ?_
    show Steps p.tables e below (T6.setTop (mkF m 17 #[.val (.long q1), .second, .val (.int p2), .val (.int p3), .val (.int p4), .val (.long q5), .second, .val (.int ln), .unset, .unset, .unset, .unset, .unset] [(.ref b6)])) _
    refine XS.dup X6.here hx rfl (hb hby at_17) rfl rfl ?_
    show Steps p.tables e below (T6.setTop (mkF m 18 #[.val (.long q1), .second, .val (.int p2), .val (.int p3), .val (.int p4), .val (.long q5), .second, .val (.int ln), .unset, .unset, .unset, .unset, .unset] [(.ref b6), (.ref b6)])) _
    refine XS.aconstNull X6.here hx rfl (hb hby at_18) ?_
    show Steps p.tables e below (T6.setTop (mkF m 19 #[.val (.long q1), .second, .val (.int p2), .val (.int p3), .val (.int p4), .val (.long q5), .second, .val (.int ln), .unset, .unset, .unset, .unset, .unset] [.null, (.ref b6), (.ref b6)])) _
    refine XS.lloadN X6.here hx rfl (hb hby at_19) rfl ?_
    show Steps p.tables e below (T6.setTop (mkF m 20 #[.val (.long q1), .second, .val (.int p2), .val (.int p3), .val (.int p4), .val (.long q5), .second, .val (.int ln), .unset, .unset, .unset, .unset, .unset] [(.long q1), .null, (.ref b6), (.ref b6)])) _
    refine XS.iload X6.here hx rfl (hb hby at_20) rfl ?_
    show Steps p.tables e below (T6.setTop (mkF m 22 #[.val (.long q1), .second, .val (.int p2), .val (.int p3), .val (.int p4), .val (.long q5), .second, .val (.int ln), .unset, .unset, .unset, .unset, .unset] [(.int ln), (.long q1), .null, (.ref b6), (.ref b6)])) _
    refine XS.iloadN X6.here hx rfl (hb hby at_22) rfl ?_
    show Steps p.tables e below (T6.setTop (mkF m 23 #[.val (.long q1), .second, .val (.int p2), .val (.int p3), .val (.int p4), .val (.long q5), .second, .val (.int ln), .unset, .unset, .unset, .unset, .unset] [(.int p3), (.int ln), (.long q1), .null, (.ref b6), (.ref b6)])) _
    exact k
  obtain ⟨_, _, ⟨T15, L15, k15, n15⟩, -, X15, ⟨Lc15, hQ15, l15, y15, z15⟩, st15⟩ := X6.specialBack hx (y := (⟨"org/driftsieve/ItemRecord$Copy", "<init>", "(Lorg/driftsieve/VersionId;JII)V"⟩ : MethodName)) rfl hown (mvT hZ (hw _ (List.mem_of_getElem? (i := 3) rfl))) (mvT hZ (hw _ (List.mem_of_getElem? (i := 4) rfl))) (mvT hZ (hw _ (List.mem_of_getElem? (i := 5) rfl))) (by decide) (backOf (W := 1) (rm1 l Z a0 hw [] b6 q1 ln p3 h6 n0 Z7 A6 f10 f11 f12 f13 g_b6) hZ (hw _ (List.mem_of_getElem? (i := 5) rfl)) (hw _ (List.mem_of_getElem? (i := 2) rfl)) (by decide) (by decide)) (g := (mkF m 23 #[.val (.long q1), .second, .val (.int p2), .val (.int p3), .val (.int p4), .val (.long q5), .second, .val (.int ln), .unset, .unset, .unset, .unset, .unset] [(.int p3), (.int ln), (.long q1), .null, (.ref b6), (.ref b6)])) rfl (by rw [hml]; rfl) (Steps.refl _) (a := b6) (argsL := [.null, (.long q1), (.int ln), (.int p3)]) (rest := [(.ref b6)]) (lenOf pd_1 rfl) rfl (by show 2 * 0 + _ ≤ _; exact Nat.le_of_eq rfl) (hb hby at_23) (fun _ _ => ⟨rfl, e6, (by decide : 1 + 0 ≤ _), (by decide : 4 + 0 ≤ _)⟩)
  dsimp only [Pt.U, Pt.locs, Pt.cells, Pt.slots] at X15 l15 y15 z15 st15 hQ15
  subst l15 y15 z15
  obtain ⟨rfl, Nq15, K15, E15', Fv15, Fl15, Fc15⟩ := hQ15
  have N16 := Fr.app N0 Nq15
  have f17 := A6.keep K15
  have Z18 : n0 ≤ T15.heap.size := Nat.le_trans Z7 K15.1
  have KP19 : Keep h0 T15.heap [] := KP8.trans K15 (allS (Or.inr sz_b6) all0)
  have K20 : ∀ t, Steps p.tables e below (T15.setTop (mkF m 26 #[.val (.long q1), .second, .val (.int p2), .val (.int p3), .val (.int p4), .val (.long q5), .second, .val (.int ln), .unset, .unset, .unset, .unset, .unset] [(.ref b6)])) t → Steps p.tables e below G t := fun t k => K14 t (st15.trans k)
  have K21 : ∀ t, Steps p.tables e below (T15.setTop (mkF m 30 #[.val (.long q1), .second, .val (.int p2), .val (.int p3), .val (.int p4), .val (.long q5), .second, .val (.int ln), .val (.ref b6), .unset, .unset, .unset, .unset] [(.int ln)])) t → Steps p.tables e below G t := by
    intro t k
    refine K20 t ?_
    show Steps p.tables e below (T15.setTop (mkF m 26 #[.val (.long q1), .second, .val (.int p2), .val (.int p3), .val (.int p4), .val (.long q5), .second, .val (.int ln), .unset, .unset, .unset, .unset, .unset] [(.ref b6)])) _
    refine XS.astore X15.here hx rfl (hb hby at_26) rfl rfl (l' := #[.val (.long q1), .second, .val (.int p2), .val (.int p3), .val (.int p4), .val (.long q5), .second, .val (.int ln), .val (.ref b6), .unset, .unset, .unset, .unset]) rfl ?_
    show Steps p.tables e below (T15.setTop (mkF m 28 #[.val (.long q1), .second, .val (.int p2), .val (.int p3), .val (.int p4), .val (.long q5), .second, .val (.int ln), .val (.ref b6), .unset, .unset, .unset, .unset] [])) _
    refine XS.iload X15.here hx rfl (hb hby at_28) rfl ?_
    show Steps p.tables e below (T15.setTop (mkF m 30 #[.val (.long q1), .second, .val (.int p2), .val (.int p3), .val (.int p4), .val (.long q5), .second, .val (.int ln), .val (.ref b6), .unset, .unset, .unset, .unset] [(.int ln)])) _
    exact k
  have K23 : ∀ t, Steps p.tables e below (T15.setTop (mkF m 38 #[.val (.long q1), .second, .val (.int p2), .val (.int p3), .val (.int p4), .val (.long q5), .second, .val (.int ln), .val (.ref b6), .unset, .unset, .unset, .unset] [(.int (if ln = (0 : Int32) then (1 : Int32) else (0 : Int32)))])) t → Steps p.tables e below G t := by
    intro t k
    refine K21 t ?_
    by_cases hc22 : ln = (0 : Int32)
    · show Steps p.tables e below (T15.setTop (mkF m 30 #[.val (.long q1), .second, .val (.int p2), .val (.int p3), .val (.int p4), .val (.long q5), .second, .val (.int ln), .val (.ref b6), .unset, .unset, .unset, .unset] [(.int ln)])) _
      refine XS.ifNo X15.here hx rfl (hb hby at_30) rfl ((if0 _ _).trans (teq hc22).2) ?_
      show Steps p.tables e below (T15.setTop (mkF m 33 #[.val (.long q1), .second, .val (.int p2), .val (.int p3), .val (.int p4), .val (.long q5), .second, .val (.int ln), .val (.ref b6), .unset, .unset, .unset, .unset] [])) _
      refine XS.iconst X15.here hx rfl (hb hby at_33) ?_
      show Steps p.tables e below (T15.setTop (mkF m 34 #[.val (.long q1), .second, .val (.int p2), .val (.int p3), .val (.int p4), .val (.long q5), .second, .val (.int ln), .val (.ref b6), .unset, .unset, .unset, .unset] [(.int (1 : Int32))])) _
      refine XS.goto X15.here hx rfl (pc0 := 34) (pc' := 38) rfl (hb hby at_34) (by decide) (by decide) ?_
      show Steps p.tables e below (T15.setTop (mkF m 38 #[.val (.long q1), .second, .val (.int p2), .val (.int p3), .val (.int p4), .val (.long q5), .second, .val (.int ln), .val (.ref b6), .unset, .unset, .unset, .unset] [(.int (1 : Int32))])) _
      simp only [if_pos hc22] at k
      exact k
    · show Steps p.tables e below (T15.setTop (mkF m 30 #[.val (.long q1), .second, .val (.int p2), .val (.int p3), .val (.int p4), .val (.long q5), .second, .val (.int ln), .val (.ref b6), .unset, .unset, .unset, .unset] [(.int ln)])) _
      refine XS.ifYes X15.here hx rfl (pc0 := 30) (pc' := 37) rfl (hb hby at_30) rfl ((if0 _ _).trans (feq hc22).2) (by decide) (by decide) ?_
      show Steps p.tables e below (T15.setTop (mkF m 37 #[.val (.long q1), .second, .val (.int p2), .val (.int p3), .val (.int p4), .val (.long q5), .second, .val (.int ln), .val (.ref b6), .unset, .unset, .unset, .unset] [])) _
      refine XS.iconst X15.here hx rfl (hb hby at_37) ?_
      show Steps p.tables e below (T15.setTop (mkF m 38 #[.val (.long q1), .second, .val (.int p2), .val (.int p3), .val (.int p4), .val (.long q5), .second, .val (.int ln), .val (.ref b6), .unset, .unset, .unset, .unset] [(.int (0 : Int32))])) _
      simp only [if_neg hc22] at k
      exact k
  obtain ⟨ex, h_ex⟩ : ∃ z : Int32, z = (if ln = (0 : Int32) then (1 : Int32) else (0 : Int32)) := ⟨_, rfl⟩
  have K24 : ∀ t, Steps p.tables e below (T15.setTop (mkF m 38 #[.val (.long q1), .second, .val (.int p2), .val (.int p3), .val (.int p4), .val (.long q5), .second, .val (.int ln), .val (.ref b6), .unset, .unset, .unset, .unset] [(.int ex)])) t → Steps p.tables e below G t := by rw [h_ex]; exact K23
  have K25 : ∀ t, Steps p.tables e below (T15.setTop (mkF m 42 #[.val (.long q1), .second, .val (.int p2), .val (.int p3), .val (.int p4), .val (.long q5), .second, .val (.int ln), .val (.ref b6), .val (.int ex), .unset, .unset, .unset] [(.ref b6)])) t → Steps p.tables e below G t := by
    intro t k
    refine K24 t ?_
    show Steps p.tables e below (T15.setTop (mkF m 38 #[.val (.long q1), .second, .val (.int p2), .val (.int p3), .val (.int p4), .val (.long q5), .second, .val (.int ln), .val (.ref b6), .unset, .unset, .unset, .unset] [(.int ex)])) _
    refine XS.istore X15.here hx rfl (hb hby at_38) rfl (l' := #[.val (.long q1), .second, .val (.int p2), .val (.int p3), .val (.int p4), .val (.long q5), .second, .val (.int ln), .val (.ref b6), .val (.int ex), .unset, .unset, .unset]) rfl ?_
    show Steps p.tables e below (T15.setTop (mkF m 40 #[.val (.long q1), .second, .val (.int p2), .val (.int p3), .val (.int p4), .val (.long q5), .second, .val (.int ln), .val (.ref b6), .val (.int ex), .unset, .unset, .unset] [])) _
    refine XS.aload X15.here hx rfl (hb hby at_40) rfl rfl ?_
    show Steps p.tables e below (T15.setTop (mkF m 42 #[.val (.long q1), .second, .val (.int p2), .val (.int p3), .val (.int p4), .val (.long q5), .second, .val (.int ln), .val (.ref b6), .val (.int ex), .unset, .unset, .unset] [(.ref b6)])) _
    exact k
  obtain ⟨cq26, kq26, q26a, q26b, q26c⟩ := isOf hZ rfl E15'
  obtain ⟨_, _, ⟨T26, L26, k26, n26⟩, -, X26, ⟨Lc26, hQ26, l26, y26, z26⟩, st26⟩ := X15.virtualBack hx (y := (⟨"org/driftsieve/ItemRecord$Copy", "isDeletion", "()Z"⟩ : MethodName)) (z := (⟨"org/driftsieve/ItemRecord$Copy", "isDeletion", "()Z"⟩ : MethodName)) hown (mvT hZ (hw _ (List.mem_of_getElem? (i := 22) rfl))) (mvT hZ (hw _ (List.mem_of_getElem? (i := 23) rfl))) (notFace_of_selects (args := #[]) (mvT hZ (hw _ (List.mem_of_getElem? (i := 25) rfl)))) (mvT hZ (hw _ (List.mem_of_getElem? (i := 25) rfl))) (mvT hZ (hw _ (List.mem_of_getElem? (i := 24) rfl))) (by decide) (backOf (W := 0) (rm4 l Z a0 hw [] b6 ln T15.heap n0 Z18 Fl15) hZ (hw _ (List.mem_of_getElem? (i := 26) rfl)) (hw _ (List.mem_of_getElem? (i := 2) rfl)) (by decide) (by decide)) q26a q26c (g := (mkF m 42 #[.val (.long q1), .second, .val (.int p2), .val (.int p3), .val (.int p4), .val (.long q5), .second, .val (.int ln), .val (.ref b6), .val (.int ex), .unset, .unset, .unset] [(.ref b6)])) rfl (by rw [hml]; rfl) (Steps.refl _) (argsL := []) (rest := []) (lenOf pd_2 rfl) rfl (by show 2 * 0 + _ ≤ _; exact Nat.le_of_eq rfl) (hb hby at_42) (fun _ _ => ⟨rfl, rfl, (by decide : 1 + 0 ≤ _), (by decide : 4 + 0 ≤ _)⟩)
  dsimp only [Pt.U, Pt.locs, Pt.cells, Pt.slots] at X26 l26 y26 z26 st26 hQ26
  subst l26 y26 z26
  obtain ⟨rfl, Nq26, e26⟩ := hQ26
  have N27 := Fr.app N16 Nq26
  have K28 : ∀ t, Steps p.tables e below (T26.setTop (mkF m 45 #[.val (.long q1), .second, .val (.int p2), .val (.int p3), .val (.int p4), .val (.long q5), .second, .val (.int ln), .val (.ref b6), .val (.int ex), .unset, .unset, .unset] [(.int (if ln = (0 : Int32) then (1 : Int32) else (0 : Int32)))])) t → Steps p.tables e below G t := fun t k => K25 t (st26.trans k)
  have K29 : ∀ t, Steps p.tables e below (T26.setTop (mkF m 51 #[.val (.long q1), .second, .val (.int p2), .val (.int p3), .val (.int p4), .val (.long q5), .second, .val (.int ln), .val (.ref b6), .val (.int ex), .val (.int (if ln = (0 : Int32) then (1 : Int32) else (0 : Int32))), .unset, .unset] [(.long q5), (.ref b6)])) t → Steps p.tables e below G t := by
    intro t k
    refine K28 t ?_
    show Steps p.tables e below (T26.setTop (mkF m 45 #[.val (.long q1), .second, .val (.int p2), .val (.int p3), .val (.int p4), .val (.long q5), .second, .val (.int ln), .val (.ref b6), .val (.int ex), .unset, .unset, .unset] [(.int (if ln = (0 : Int32) then (1 : Int32) else (0 : Int32)))])) _
    refine XS.istore X26.here hx rfl (hb hby at_45) rfl (l' := #[.val (.long q1), .second, .val (.int p2), .val (.int p3), .val (.int p4), .val (.long q5), .second, .val (.int ln), .val (.ref b6), .val (.int ex), .val (.int (if ln = (0 : Int32) then (1 : Int32) else (0 : Int32))), .unset, .unset]) rfl ?_
    show Steps p.tables e below (T26.setTop (mkF m 47 #[.val (.long q1), .second, .val (.int p2), .val (.int p3), .val (.int p4), .val (.long q5), .second, .val (.int ln), .val (.ref b6), .val (.int ex), .val (.int (if ln = (0 : Int32) then (1 : Int32) else (0 : Int32))), .unset, .unset] [])) _
    refine XS.aload X26.here hx rfl (hb hby at_47) rfl rfl ?_
    show Steps p.tables e below (T26.setTop (mkF m 49 #[.val (.long q1), .second, .val (.int p2), .val (.int p3), .val (.int p4), .val (.long q5), .second, .val (.int ln), .val (.ref b6), .val (.int ex), .val (.int (if ln = (0 : Int32) then (1 : Int32) else (0 : Int32))), .unset, .unset] [(.ref b6)])) _
    refine XS.lload X26.here hx rfl (hb hby at_49) rfl ?_
    show Steps p.tables e below (T26.setTop (mkF m 51 #[.val (.long q1), .second, .val (.int p2), .val (.int p3), .val (.int p4), .val (.long q5), .second, .val (.int ln), .val (.ref b6), .val (.int ex), .val (.int (if ln = (0 : Int32) then (1 : Int32) else (0 : Int32))), .unset, .unset] [(.long q5), (.ref b6)])) _
    exact k
  obtain ⟨cq30, kq30, q30a, q30b, q30c⟩ := isOf hZ e26 E15'
  obtain ⟨_, _, ⟨T30, L30, k30, n30⟩, -, X30, ⟨Lc30, hQ30, l30, y30, z30⟩, st30⟩ := X26.virtualBack hx (y := (⟨"org/driftsieve/ItemRecord$Copy", "withOffset", "(J)Lorg/driftsieve/ItemRecord$Copy;"⟩ : MethodName)) (z := (⟨"org/driftsieve/ItemRecord$Copy", "withOffset", "(J)Lorg/driftsieve/ItemRecord$Copy;"⟩ : MethodName)) hown (mvT hZ (hw _ (List.mem_of_getElem? (i := 27) rfl))) (mvT hZ (hw _ (List.mem_of_getElem? (i := 28) rfl))) (notFace_of_selects (args := #[]) (mvT hZ (hw _ (List.mem_of_getElem? (i := 30) rfl)))) (mvT hZ (hw _ (List.mem_of_getElem? (i := 30) rfl))) (mvT hZ (hw _ (List.mem_of_getElem? (i := 29) rfl))) (by decide) (backOf (W := 0) (rm5 l Z a0 hw [] b6 q5 ln p3 T15.heap n0 Z18 Fv15 Fl15 Fc15) hZ (hw _ (List.mem_of_getElem? (i := 31) rfl)) (hw _ (List.mem_of_getElem? (i := 2) rfl)) (by decide) (by decide)) q30a q30c (g := (mkF m 51 #[.val (.long q1), .second, .val (.int p2), .val (.int p3), .val (.int p4), .val (.long q5), .second, .val (.int ln), .val (.ref b6), .val (.int ex), .val (.int (if ln = (0 : Int32) then (1 : Int32) else (0 : Int32))), .unset, .unset] [(.long q5), (.ref b6)])) rfl (by rw [hml]; rfl) (Steps.refl _) (argsL := [(.long q5)]) (rest := []) (lenOf pd_3 rfl) rfl (by show 2 * 0 + _ ≤ _; exact Nat.le_of_eq rfl) (hb hby at_51) (fun _ _ => ⟨rfl, e26, (by decide : 1 + 1 ≤ _), (by decide : 4 + 4 ≤ _)⟩)
  dsimp only [Pt.U, Pt.locs, Pt.cells, Pt.slots] at X30 l30 y30 z30 st30 hQ30
  subst l30 y30 z30
  obtain ⟨b30, rfl, Nq30, K30, sz30, E30', Fl30⟩ := hQ30
  have N31 := Fr.app N27 Nq30
  have f32 := E15'.keep K30
  have f33 := Fv15.keep K30 nin0
  have f34 := Fl15.keep K30 nin0
  have f35 := Fc15.keep K30 nin0
  have Z36 : n0 ≤ T30.heap.size := Nat.le_trans Z18 K30.1
  have KP37 : Keep h0 T30.heap [] := KP19.trans K30 all0
  have K38 : ∀ t, Steps p.tables e below (T30.setTop (mkF m 54 #[.val (.long q1), .second, .val (.int p2), .val (.int p3), .val (.int p4), .val (.long q5), .second, .val (.int ln), .val (.ref b6), .val (.int ex), .val (.int (if ln = (0 : Int32) then (1 : Int32) else (0 : Int32))), .unset, .unset] [(.ref b30)])) t → Steps p.tables e below G t := fun t k => K29 t (st30.trans k)
  have K39 : ∀ t, Steps p.tables e below (T30.setTop (mkF m 58 #[.val (.long q1), .second, .val (.int p2), .val (.int p3), .val (.int p4), .val (.long q5), .second, .val (.int ln), .val (.ref b6), .val (.int ex), .val (.int (if ln = (0 : Int32) then (1 : Int32) else (0 : Int32))), .val (.ref b30), .unset] [(.ref b30)])) t → Steps p.tables e below G t := by
    intro t k
    refine K38 t ?_
    show Steps p.tables e below (T30.setTop (mkF m 54 #[.val (.long q1), .second, .val (.int p2), .val (.int p3), .val (.int p4), .val (.long q5), .second, .val (.int ln), .val (.ref b6), .val (.int ex), .val (.int (if ln = (0 : Int32) then (1 : Int32) else (0 : Int32))), .unset, .unset] [(.ref b30)])) _
    refine XS.astore X30.here hx rfl (hb hby at_54) rfl rfl (l' := #[.val (.long q1), .second, .val (.int p2), .val (.int p3), .val (.int p4), .val (.long q5), .second, .val (.int ln), .val (.ref b6), .val (.int ex), .val (.int (if ln = (0 : Int32) then (1 : Int32) else (0 : Int32))), .val (.ref b30), .unset]) rfl ?_
    show Steps p.tables e below (T30.setTop (mkF m 56 #[.val (.long q1), .second, .val (.int p2), .val (.int p3), .val (.int p4), .val (.long q5), .second, .val (.int ln), .val (.ref b6), .val (.int ex), .val (.int (if ln = (0 : Int32) then (1 : Int32) else (0 : Int32))), .val (.ref b30), .unset] [])) _
    refine XS.aload X30.here hx rfl (hb hby at_56) rfl rfl ?_
    show Steps p.tables e below (T30.setTop (mkF m 58 #[.val (.long q1), .second, .val (.int p2), .val (.int p3), .val (.int p4), .val (.long q5), .second, .val (.int ln), .val (.ref b6), .val (.int ex), .val (.int (if ln = (0 : Int32) then (1 : Int32) else (0 : Int32))), .val (.ref b30), .unset] [(.ref b30)])) _
    exact k
  obtain ⟨cq40, kq40, q40a, q40b, q40c⟩ := isOf hZ rfl E30'
  obtain ⟨_, _, ⟨T40, L40, k40, n40⟩, -, X40, ⟨Lc40, hQ40, l40, y40, z40⟩, st40⟩ := X30.virtualBack hx (y := (⟨"org/driftsieve/ItemRecord$Copy", "isDeletion", "()Z"⟩ : MethodName)) (z := (⟨"org/driftsieve/ItemRecord$Copy", "isDeletion", "()Z"⟩ : MethodName)) hown (mvT hZ (hw _ (List.mem_of_getElem? (i := 22) rfl))) (mvT hZ (hw _ (List.mem_of_getElem? (i := 23) rfl))) (notFace_of_selects (args := #[]) (mvT hZ (hw _ (List.mem_of_getElem? (i := 25) rfl)))) (mvT hZ (hw _ (List.mem_of_getElem? (i := 25) rfl))) (mvT hZ (hw _ (List.mem_of_getElem? (i := 24) rfl))) (by decide) (backOf (W := 0) (rm4 l Z a0 hw [] b30 ln T30.heap n0 Z36 Fl30) hZ (hw _ (List.mem_of_getElem? (i := 26) rfl)) (hw _ (List.mem_of_getElem? (i := 2) rfl)) (by decide) (by decide)) q40a q40c (g := (mkF m 58 #[.val (.long q1), .second, .val (.int p2), .val (.int p3), .val (.int p4), .val (.long q5), .second, .val (.int ln), .val (.ref b6), .val (.int ex), .val (.int (if ln = (0 : Int32) then (1 : Int32) else (0 : Int32))), .val (.ref b30), .unset] [(.ref b30)])) rfl (by rw [hml]; rfl) (Steps.refl _) (argsL := []) (rest := []) (lenOf pd_2 rfl) rfl (by show 2 * 0 + _ ≤ _; exact Nat.le_of_eq rfl) (hb hby at_58) (fun _ _ => ⟨rfl, rfl, (by decide : 2 + 0 ≤ _), (by decide : 8 + 0 ≤ _)⟩)
  dsimp only [Pt.U, Pt.locs, Pt.cells, Pt.slots] at X40 l40 y40 z40 st40 hQ40
  subst l40 y40 z40
  obtain ⟨rfl, Nq40, e40⟩ := hQ40
  have N41 := Fr.app N31 Nq40
  have K42 : ∀ t, Steps p.tables e below (T40.setTop (mkF m 61 #[.val (.long q1), .second, .val (.int p2), .val (.int p3), .val (.int p4), .val (.long q5), .second, .val (.int ln), .val (.ref b6), .val (.int ex), .val (.int (if ln = (0 : Int32) then (1 : Int32) else (0 : Int32))), .val (.ref b30), .unset] [(.int (if ln = (0 : Int32) then (1 : Int32) else (0 : Int32)))])) t → Steps p.tables e below G t := fun t k => K39 t (st40.trans k)
  have K43 : ∀ t, Steps p.tables e below (T40.setTop (mkF m 79 #[.val (.long q1), .second, .val (.int p2), .val (.int p3), .val (.int p4), .val (.long q5), .second, .val (.int ln), .val (.ref b6), .val (.int ex), .val (.int (if ln = (0 : Int32) then (1 : Int32) else (0 : Int32))), .val (.ref b30), .val (.int (if ln = (0 : Int32) then (1 : Int32) else (0 : Int32)))] [(.ref b6)])) t → Steps p.tables e below G t := by
    intro t k
    refine K42 t ?_
    show Steps p.tables e below (T40.setTop (mkF m 61 #[.val (.long q1), .second, .val (.int p2), .val (.int p3), .val (.int p4), .val (.long q5), .second, .val (.int ln), .val (.ref b6), .val (.int ex), .val (.int (if ln = (0 : Int32) then (1 : Int32) else (0 : Int32))), .val (.ref b30), .unset] [(.int (if ln = (0 : Int32) then (1 : Int32) else (0 : Int32)))])) _
    refine XS.istore X40.here hx rfl (hb hby at_61) rfl (l' := #[.val (.long q1), .second, .val (.int p2), .val (.int p3), .val (.int p4), .val (.long q5), .second, .val (.int ln), .val (.ref b6), .val (.int ex), .val (.int (if ln = (0 : Int32) then (1 : Int32) else (0 : Int32))), .val (.ref b30), .val (.int (if ln = (0 : Int32) then (1 : Int32) else (0 : Int32)))]) rfl ?_
    show Steps p.tables e below (T40.setTop (mkF m 63 #[.val (.long q1), .second, .val (.int p2), .val (.int p3), .val (.int p4), .val (.long q5), .second, .val (.int ln), .val (.ref b6), .val (.int ex), .val (.int (if ln = (0 : Int32) then (1 : Int32) else (0 : Int32))), .val (.ref b30), .val (.int (if ln = (0 : Int32) then (1 : Int32) else (0 : Int32)))] [])) _
    refine XS.iload X40.here hx rfl (hb hby at_63) rfl ?_
    show Steps p.tables e below (T40.setTop (mkF m 65 #[.val (.long q1), .second, .val (.int p2), .val (.int p3), .val (.int p4), .val (.long q5), .second, .val (.int ln), .val (.ref b6), .val (.int ex), .val (.int (if ln = (0 : Int32) then (1 : Int32) else (0 : Int32))), .val (.ref b30), .val (.int (if ln = (0 : Int32) then (1 : Int32) else (0 : Int32)))] [(.int (if ln = (0 : Int32) then (1 : Int32) else (0 : Int32)))])) _
    refine XS.iload X40.here hx rfl (hb hby at_65) rfl ?_
    show Steps p.tables e below (T40.setTop (mkF m 67 #[.val (.long q1), .second, .val (.int p2), .val (.int p3), .val (.int p4), .val (.long q5), .second, .val (.int ln), .val (.ref b6), .val (.int ex), .val (.int (if ln = (0 : Int32) then (1 : Int32) else (0 : Int32))), .val (.ref b30), .val (.int (if ln = (0 : Int32) then (1 : Int32) else (0 : Int32)))] [(.int ex), (.int (if ln = (0 : Int32) then (1 : Int32) else (0 : Int32)))])) _
    refine XS.icmpNo X40.here hx rfl (hb hby at_67) rfl (teq h_ex.symm).2 ?_
    show Steps p.tables e below (T40.setTop (mkF m 70 #[.val (.long q1), .second, .val (.int p2), .val (.int p3), .val (.int p4), .val (.long q5), .second, .val (.int ln), .val (.ref b6), .val (.int ex), .val (.int (if ln = (0 : Int32) then (1 : Int32) else (0 : Int32))), .val (.ref b30), .val (.int (if ln = (0 : Int32) then (1 : Int32) else (0 : Int32)))] [])) _
    refine XS.iload X40.here hx rfl (hb hby at_70) rfl ?_
    show Steps p.tables e below (T40.setTop (mkF m 72 #[.val (.long q1), .second, .val (.int p2), .val (.int p3), .val (.int p4), .val (.long q5), .second, .val (.int ln), .val (.ref b6), .val (.int ex), .val (.int (if ln = (0 : Int32) then (1 : Int32) else (0 : Int32))), .val (.ref b30), .val (.int (if ln = (0 : Int32) then (1 : Int32) else (0 : Int32)))] [(.int (if ln = (0 : Int32) then (1 : Int32) else (0 : Int32)))])) _
    refine XS.iload X40.here hx rfl (hb hby at_72) rfl ?_
    show Steps p.tables e below (T40.setTop (mkF m 74 #[.val (.long q1), .second, .val (.int p2), .val (.int p3), .val (.int p4), .val (.long q5), .second, .val (.int ln), .val (.ref b6), .val (.int ex), .val (.int (if ln = (0 : Int32) then (1 : Int32) else (0 : Int32))), .val (.ref b30), .val (.int (if ln = (0 : Int32) then (1 : Int32) else (0 : Int32)))] [(.int ex), (.int (if ln = (0 : Int32) then (1 : Int32) else (0 : Int32)))])) _
    refine XS.icmpNo X40.here hx rfl (hb hby at_74) rfl (teq h_ex.symm).2 ?_
    show Steps p.tables e below (T40.setTop (mkF m 77 #[.val (.long q1), .second, .val (.int p2), .val (.int p3), .val (.int p4), .val (.long q5), .second, .val (.int ln), .val (.ref b6), .val (.int ex), .val (.int (if ln = (0 : Int32) then (1 : Int32) else (0 : Int32))), .val (.ref b30), .val (.int (if ln = (0 : Int32) then (1 : Int32) else (0 : Int32)))] [])) _
    refine XS.aload X40.here hx rfl (hb hby at_77) rfl rfl ?_
    show Steps p.tables e below (T40.setTop (mkF m 79 #[.val (.long q1), .second, .val (.int p2), .val (.int p3), .val (.int p4), .val (.long q5), .second, .val (.int ln), .val (.ref b6), .val (.int ex), .val (.int (if ln = (0 : Int32) then (1 : Int32) else (0 : Int32))), .val (.ref b30), .val (.int (if ln = (0 : Int32) then (1 : Int32) else (0 : Int32)))] [(.ref b6)])) _
    exact k
  obtain ⟨cq44, kq44, q44a, q44b, q44c⟩ := isOf hZ e40 f32
  obtain ⟨_, _, ⟨T44, L44, k44, n44⟩, -, X44, ⟨Lc44, hQ44, l44, y44, z44⟩, st44⟩ := X40.virtualBack hx (y := (⟨"org/driftsieve/ItemRecord$Copy", "length", "()I"⟩ : MethodName)) (z := (⟨"org/driftsieve/ItemRecord$Copy", "length", "()I"⟩ : MethodName)) hown (mvT hZ (hw _ (List.mem_of_getElem? (i := 34) rfl))) (mvT hZ (hw _ (List.mem_of_getElem? (i := 35) rfl))) (notFace_of_selects (args := #[]) (mvT hZ (hw _ (List.mem_of_getElem? (i := 37) rfl)))) (mvT hZ (hw _ (List.mem_of_getElem? (i := 37) rfl))) (mvT hZ (hw _ (List.mem_of_getElem? (i := 36) rfl))) (by decide) (backOf (W := 0) (rm6 l Z a0 hw [] b6 ln T30.heap n0 Z36 f34) hZ (hw _ (List.mem_of_getElem? (i := 38) rfl)) (hw _ (List.mem_of_getElem? (i := 2) rfl)) (by decide) (by decide)) q44a q44c (g := (mkF m 79 #[.val (.long q1), .second, .val (.int p2), .val (.int p3), .val (.int p4), .val (.long q5), .second, .val (.int ln), .val (.ref b6), .val (.int ex), .val (.int (if ln = (0 : Int32) then (1 : Int32) else (0 : Int32))), .val (.ref b30), .val (.int (if ln = (0 : Int32) then (1 : Int32) else (0 : Int32)))] [(.ref b6)])) rfl (by rw [hml]; rfl) (Steps.refl _) (argsL := []) (rest := []) (lenOf pd_4 rfl) rfl (by show 2 * 0 + _ ≤ _; exact Nat.le_of_eq rfl) (hb hby at_79) (fun _ _ => ⟨rfl, e40, (by decide : 2 + 0 ≤ _), (by decide : 8 + 0 ≤ _)⟩)
  dsimp only [Pt.U, Pt.locs, Pt.cells, Pt.slots] at X44 l44 y44 z44 st44 hQ44
  subst l44 y44 z44
  obtain ⟨rfl, Nq44, e44⟩ := hQ44
  have N45 := Fr.app N41 Nq44
  have K46 : ∀ t, Steps p.tables e below (T44.setTop (mkF m 82 #[.val (.long q1), .second, .val (.int p2), .val (.int p3), .val (.int p4), .val (.long q5), .second, .val (.int ln), .val (.ref b6), .val (.int ex), .val (.int (if ln = (0 : Int32) then (1 : Int32) else (0 : Int32))), .val (.ref b30), .val (.int (if ln = (0 : Int32) then (1 : Int32) else (0 : Int32)))] [(.int ln)])) t → Steps p.tables e below G t := fun t k => K43 t (st44.trans k)
  obtain ⟨fs, hr, hrun, hended, hW, hsame⟩ := X44.leave (v := some (.int (1 : Int32))) (fun h => by rw [Bd.returns] at h; cases h)
  have KF := K46
  rw [hG] at KF
  refine ⟨_, _, KF _ ?_, hrun, hended, _, _, rfl, ?_, ⟨_, rfl⟩, hW, hsame.mono (by decide) (by decide)⟩
  · show Steps p.tables e below (T44.setTop (mkF m 82 #[.val (.long q1), .second, .val (.int p2), .val (.int p3), .val (.int p4), .val (.long q5), .second, .val (.int ln), .val (.ref b6), .val (.int ex), .val (.int (if ln = (0 : Int32) then (1 : Int32) else (0 : Int32))), .val (.ref b30), .val (.int (if ln = (0 : Int32) then (1 : Int32) else (0 : Int32)))] [(.int ln)])) _
    refine XS.iload X44.here hx rfl (hb hby at_82) rfl ?_
    show Steps p.tables e below (T44.setTop (mkF m 84 #[.val (.long q1), .second, .val (.int p2), .val (.int p3), .val (.int p4), .val (.long q5), .second, .val (.int ln), .val (.ref b6), .val (.int ex), .val (.int (if ln = (0 : Int32) then (1 : Int32) else (0 : Int32))), .val (.ref b30), .val (.int (if ln = (0 : Int32) then (1 : Int32) else (0 : Int32)))] [(.int ln), (.int ln)])) _
    refine XS.icmpNo X44.here hx rfl (hb hby at_84) rfl (teq rfl).2 ?_
    show Steps p.tables e below (T44.setTop (mkF m 87 #[.val (.long q1), .second, .val (.int p2), .val (.int p3), .val (.int p4), .val (.long q5), .second, .val (.int ln), .val (.ref b6), .val (.int ex), .val (.int (if ln = (0 : Int32) then (1 : Int32) else (0 : Int32))), .val (.ref b30), .val (.int (if ln = (0 : Int32) then (1 : Int32) else (0 : Int32)))] [])) _
    refine XS.iconst X44.here hx rfl (hb hby at_87) ?_
    show Steps p.tables e below (T44.setTop (mkF m 88 #[.val (.long q1), .second, .val (.int p2), .val (.int p3), .val (.int p4), .val (.long q5), .second, .val (.int ln), .val (.ref b6), .val (.int ex), .val (.int (if ln = (0 : Int32) then (1 : Int32) else (0 : Int32))), .val (.ref b30), .val (.int (if ln = (0 : Int32) then (1 : Int32) else (0 : Int32)))] [(.int (1 : Int32))])) _
    refine XS.goto X44.here hx rfl (pc0 := 88) (pc' := 92) rfl (hb hby at_88) (by decide) (by decide) ?_
    show Steps p.tables e below (T44.setTop (mkF m 92 #[.val (.long q1), .second, .val (.int p2), .val (.int p3), .val (.int p4), .val (.long q5), .second, .val (.int ln), .val (.ref b6), .val (.int ex), .val (.int (if ln = (0 : Int32) then (1 : Int32) else (0 : Int32))), .val (.ref b30), .val (.int (if ln = (0 : Int32) then (1 : Int32) else (0 : Int32)))] [(.int (1 : Int32))])) _
    exact retN X44 hx (t := .boolean) Bd.returns (by simp) (hb hby at_92) hr
  · show Q0 n0 _ T44.heap _
    rw [e44]
    exact ⟨rfl, N45⟩
set_option maxRecDepth 65536 in
set_option maxHeartbeats 40000000 in
theorem comes_1 {Post : Tables → Env → Array Value → State → Outcome → State → Prop} (hpost : ∀ tb e args s v u, (limb_1_1.after args s (.returned v) u = true ∧ limb_1_2.after args s (.returned v) u = true ∧ True) → FrameEnd s (.returned v) u (Jvm.fieldLocs frame_1_writes args s ++ Jvm.arrayLocs frame_1_arrays args s ++ Jvm.staticLocs frame_1_statics s) 16 128 → Post tb e args s (.returned v) u) :
    ArmFor flags0 classFile x code maxLocals ret World_1 tables_1 room_1 Calls_1 rest_1 Pre_1 Post := by
  intro l hfl _ _ p e ha hc hk s m args below hf hA hF happ hP
  obtain ⟨hcalls, hrest, hpre⟩ := hP
  obtain ⟨-, -, -, hnamed, -, -, -, hat⟩ := (Spec.applies_iff hf).mp happ
  obtain ⟨hg, hn⟩ := and_e (Cond.before_iff.mp (show (Jvm.Cond.and given_1 narrow_1).before args s = true from hpre))
  obtain ⟨gc, gr0⟩ := and_e hg
  obtain ⟨ga0, gr1⟩ := and_e gr0
  obtain ⟨ga1, gr2⟩ := and_e gr1
  obtain ⟨ga2, gr3⟩ := and_e gr2
  obtain ⟨ga3, gr4⟩ := and_e gr3
  have ga4 := gr4
  obtain ⟨w0, w1, w2, w3, w4, rfl⟩ : ∃ w0 w1 w2 w3 w4 : Value, args = #[w0, w1, w2, w3, w4] := by
    have hs : args.size = 5 := by simpa [Cond.value, given_1] using gc
    obtain ⟨L⟩ := args
    match L, hs with
    | [w0, w1, w2, w3, w4], _ => exact ⟨w0, w1, w2, w3, w4, rfl⟩
  have hw := fun d (hd : d ∈ tables_1) => atoms_spec (ws := Jvm.Cond.code x code maxLocals ret :: tables_1) hat d (List.mem_cons_of_mem _ hd)
  have hfit : Fit s := fun {y c} hc i hi => by
    obtain ⟨ha, rfl⟩ := Array.getElem?_eq_some_iff.mp hc
    have q := List.all_eq_true.mp ((Array.all_eq_true_iff_forall_mem.mp hF) _ (Array.getElem_mem ha)) i (List.mem_range.mpr hi)
    simpa [Array.getElem?_eq_getElem hi] using q
  obtain ⟨i0, ei0⟩ := isL_v ga0
  obtain rfl : w0 = (.long i0) := Option.some.inj ei0
  obtain ⟨i1, ei1⟩ := is_v ga1
  obtain rfl : w1 = (.int i1) := Option.some.inj ei1
  obtain ⟨i2, ei2⟩ := is_v ga2
  obtain rfl : w2 = (.int i2) := Option.some.inj ei2
  obtain ⟨i3, ei3⟩ := is_v ga3
  obtain rfl : w3 = (.int i3) := Option.some.inj ei3
  obtain ⟨i4, ei4⟩ := isL_v ga4
  obtain rfl : w4 = (.long i4) := Option.some.inj ei4
  obtain ⟨n, o, h1, h2, h3, _, L, rfl, ⟨rfl, N⟩, hq⟩ := rm0 l s _ hw tables_1 i0 i1 i2 i3 i4  s.heap s.heap.size (Nat.le_refl _)  p e ha hc hk s m _ below hf ((Spec.applies_iff_loose hf).mp happ).1 ⟨rfl, State.Warmed39.refl s, rfl⟩ trivial
  refine ⟨n, _, h1, h2, h3, hpost _ _ _ _ _ _ ⟨Cond.after_iff.mpr rfl, Cond.after_iff.mpr (eq_i res_at (Term.int_eval (1)) rfl), trivial⟩ ⟨hq.1, hq.2.1, (hq.2.2.sift fun y hy => Or.inr (N y hy)).mono (by decide) (by decide)⟩⟩
theorem main_1_1 : Claimed_1_1 := comes_1 fun _ _ _ _ _ _ h hF => ⟨h.1, hF⟩
theorem main_1_2 : Claimed_1_2 := comes_1 fun _ _ _ _ _ _ h hF => ⟨h.2.1, hF⟩
end Jvm.Pilot.@@N@@
namespace Jvm.Pilot.@@N@@
open Jvm Jvm.ClassFile Sem Op Lib Jvm.Free Jvm.Stand Jvm.Pilot.@@N@@.Jvm.D
/-! MADE BY PROGRAM (witnessworld.py) out of the Statement's table words and the real class files: 10 classes; the members and pool entries that the words name. The judged class is class 1, her method 1. -/
namespace start1
open Jvm.ClassFile
def u (s : String) : CpInfo := .utf8 (stringToUtf16 s)
/-- a pool by its gaps: so many unusable entries, then the entry; so many at the end -/
def gap : Nat → List CpInfo → List CpInfo
  | 0, r => r
  | n + 1, r => .unusable :: gap n r
def poolList (es : List (Nat × CpInfo)) (last : Nat) : List CpInfo := es.foldr (fun e r => gap e.1 (e.2 :: r)) (gap last [])
def pool (es : List (Nat × CpInfo)) (last : Nat) : Array CpInfo := ⟨poolList es last⟩
def fileOf (pool : Array CpInfo) (this : Nat) (attrs : Array Attribute := #[]) (ms : Array MethodInfo := #[]) (fl : Nat := 33) (sup : Nat := 0) (ifs : Array Nat := #[]) (fds : Array FieldInfo := #[]) : ClassFile where
  minorVersion := 0
  majorVersion := 65
  constantPool := pool
  accessFlags := fl
  thisClass := this
  superClass := sup
  interfaces := ifs
  fields := fds
  methods := ms
  attributes := attrs
def plain (name : String) (sup : Option ClassId) : Class where
  name := name
  kind := .ordinary
  loader := none
  accessFlags := 33
  super := sup
  interfaces := #[]
  cf := none
  fields := #[]
  methods := #[]
  instanceTypes := #[]
  staticTypes := #[]
  resolved := #[]
  callSites := []
  init := .initialized
  statics := none
  mirror := none

def pool0 : Array CpInfo := pool [(5, u "<init>"), (0, u "()V"), (1, .class_ 10), (1, u "java/lang/Object")] 113

def k0c0 : Code := { maxStack := 0, maxLocals := 1, code := object_method_1_code, exceptionTable := #[], attributes := #[] }
def k0m0 : Method := { name := "<init>", desc := "()V", sig := { parameters := [], returnType := none }, accessFlags := 1, code := some k0c0 }
/-- java/lang/Object -/
def k0 : Class := { plain "java/lang/Object" none with
  accessFlags := 33
  interfaces := #[]
  cf := some (fileOf pool0 8 #[] #[{ accessFlags := 1, nameIndex := 5, descriptorIndex := 6, attributes := #[] }] 33 0 #[] #[])
  fields := #[]
  methods := #[k0m0]
  instanceTypes := #[]
  staticTypes := #[]
  resolved := Array.replicate 124 none
  statics := none }

def pool1 : Array CpInfo := pool [(2, .class_ 4), (1, u "java/lang/Object"), (0, u "<init>"), (0, u "()V"), (0, .class_ 8), (0, u "org/driftsieve/ItemRecord$Copy"), (0, .methodref 7 10), (0, .nameAndType 5 11), (0, u "(Lorg/driftsieve/VersionId;JII)V"), (0, .methodref 7 13), (0, .nameAndType 14 15), (0, u "isDeletion"), (0, u "()Z"), (0, .methodref 7 17), (0, .nameAndType 18 19), (0, u "withOffset"), (0, u "(J)Lorg/driftsieve/ItemRecord$Copy;"), (0, .methodref 7 21), (0, .nameAndType 22 23), (0, u "length"), (0, u "()I"), (0, .class_ 25), (0, u "org/driftsieve/CopyIsDeletionPinLaw"), (2, u "law"), (0, u "(JIIIJ)Z")] 7

def k1m0 : Method := { name := "<init>", desc := "()V", sig := { parameters := [], returnType := none }, accessFlags := 2, code := none }
def k1c1 : Code := { maxStack := 7, maxLocals := 13, code := code, exceptionTable := #[], attributes := #[] }
def k1m1 : Method := { name := "law", desc := "(JIIIJ)Z", sig := { parameters := [.long, .int, .int, .int, .long], returnType := some .boolean }, accessFlags := 9, code := some k1c1 }
/-- org/driftsieve/CopyIsDeletionPinLaw -/
def k1 : Class := { plain "org/driftsieve/CopyIsDeletionPinLaw" (some 0) with
  accessFlags := 49
  interfaces := #[]
  cf := some (fileOf pool1 24 #[] #[{ accessFlags := 2, nameIndex := 5, descriptorIndex := 6, attributes := #[] }, { accessFlags := 9, nameIndex := 28, descriptorIndex := 29, attributes := #[] }] 49 2 #[] #[])
  fields := #[]
  methods := #[k1m0, k1m1]
  instanceTypes := #[]
  staticTypes := #[]
  resolved := Array.replicate 37 none
  statics := none }

def pool2 : Array CpInfo := pool [(1, .methodref 2 3), (0, .class_ 4), (0, .nameAndType 5 6), (0, u "java/lang/Object"), (0, u "<init>"), (0, u "()V"), (0, .class_ 8), (0, u "java/lang/Record")] 13

def k2c0 : Code := { maxStack := 1, maxLocals := 1, code := jdk_30_method_1_code, exceptionTable := #[], attributes := #[] }
def k2m0 : Method := { name := "<init>", desc := "()V", sig := { parameters := [], returnType := none }, accessFlags := 4, code := some k2c0 }
/-- java/lang/Record -/
def k2 : Class := { plain "java/lang/Record" (some 0) with
  accessFlags := 1057
  interfaces := #[]
  cf := some (fileOf pool2 7 #[] #[{ accessFlags := 4, nameIndex := 5, descriptorIndex := 6, attributes := #[] }] 1057 2 #[] #[])
  fields := #[]
  methods := #[k2m0]
  instanceTypes := #[]
  staticTypes := #[]
  resolved := Array.replicate 22 none
  statics := none }

def pool3 : Array CpInfo := pool [(1, .methodref 2 3), (0, .class_ 4), (0, .nameAndType 5 6), (0, u "java/lang/Record"), (0, u "<init>"), (0, u "()V"), (0, .fieldref 8 9), (0, .class_ 10), (0, .nameAndType 11 12), (0, u "org/driftsieve/ItemRecord$Copy"), (0, u "version"), (0, u "Lorg/driftsieve/VersionId;"), (0, .fieldref 8 14), (0, .nameAndType 15 16), (0, u "offset"), (0, u "J"), (0, .fieldref 8 18), (0, .nameAndType 19 20), (0, u "length"), (0, u "I"), (0, .fieldref 8 22), (0, .nameAndType 23 20), (0, u "checksum"), (3, .methodref 8 28), (0, .nameAndType 5 29), (0, u "(Lorg/driftsieve/VersionId;JII)V"), (32, u "isDeletion"), (0, u "()Z"), (4, u "withOffset"), (0, u "(J)Lorg/driftsieve/ItemRecord$Copy;"), (1, u "()I"), (5, .class_ 78), (0, u "org/driftsieve/ItemRecord")] 22

def k3c0 : Code := { maxStack := 3, maxLocals := 6, code := prog_7_method_1_code, exceptionTable := #[], attributes := #[] }
def k3m0 : Method := { name := "<init>", desc := "(Lorg/driftsieve/VersionId;JII)V", sig := { parameters := [(.object "org/driftsieve/VersionId"), .long, .int, .int], returnType := none }, accessFlags := 0, code := some k3c0 }
def k3c1 : Code := { maxStack := 1, maxLocals := 1, code := prog_7_method_4_code, exceptionTable := #[], attributes := #[] }
def k3m1 : Method := { name := "isDeletion", desc := "()Z", sig := { parameters := [], returnType := some .boolean }, accessFlags := 0, code := some k3c1 }
def k3c2 : Code := { maxStack := 7, maxLocals := 3, code := prog_7_method_7_code, exceptionTable := #[], attributes := #[] }
def k3m2 : Method := { name := "withOffset", desc := "(J)Lorg/driftsieve/ItemRecord$Copy;", sig := { parameters := [.long], returnType := some (.object "org/driftsieve/ItemRecord$Copy") }, accessFlags := 0, code := some k3c2 }
def k3c3 : Code := { maxStack := 1, maxLocals := 1, code := prog_7_method_14_code, exceptionTable := #[], attributes := #[] }
def k3m3 : Method := { name := "length", desc := "()I", sig := { parameters := [], returnType := some .int }, accessFlags := 1, code := some k3c3 }
/-- org/driftsieve/ItemRecord$Copy -/
def k3 : Class := { plain "org/driftsieve/ItemRecord$Copy" (some 2) with
  accessFlags := 48
  interfaces := #[]
  cf := some (fileOf pool3 8 #[.nestHost 77] #[{ accessFlags := 0, nameIndex := 5, descriptorIndex := 29, attributes := #[] }, { accessFlags := 0, nameIndex := 62, descriptorIndex := 63, attributes := #[] }, { accessFlags := 0, nameIndex := 68, descriptorIndex := 69, attributes := #[] }, { accessFlags := 1, nameIndex := 19, descriptorIndex := 71, attributes := #[] }] 48 2 #[] #[{ accessFlags := 18, nameIndex := 11, descriptorIndex := 12, attributes := #[] }, { accessFlags := 18, nameIndex := 15, descriptorIndex := 16, attributes := #[] }, { accessFlags := 18, nameIndex := 19, descriptorIndex := 20, attributes := #[] }, { accessFlags := 18, nameIndex := 23, descriptorIndex := 20, attributes := #[] }])
  fields := #[{ name := "version", type := (.object "org/driftsieve/VersionId"), accessFlags := 18, slot := 0, constantValue := 0 }, { name := "offset", type := .long, accessFlags := 18, slot := 1, constantValue := 0 }, { name := "length", type := .int, accessFlags := 18, slot := 2, constantValue := 0 }, { name := "checksum", type := .int, accessFlags := 18, slot := 3, constantValue := 0 }]
  methods := #[k3m0, k3m1, k3m2, k3m3]
  instanceTypes := #[(.object "org/driftsieve/VersionId"), .long, .int, .int]
  staticTypes := #[]
  resolved := Array.replicate 101 none
  statics := none }

def pool4 : Array CpInfo := pool [(1, u "java/lang/Cloneable"), (0, .class_ 1), (0, u "java/lang/Object"), (0, .class_ 3)] 3

/-- java/lang/Cloneable -/
def k4 : Class := { plain "java/lang/Cloneable" (some 0) with
  accessFlags := 1537
  interfaces := #[]
  cf := some (fileOf pool4 2 #[] #[] 1537 4 #[] #[])
  fields := #[]
  methods := #[]
  instanceTypes := #[]
  staticTypes := #[]
  resolved := Array.replicate 8 none
  statics := none }

def pool5 : Array CpInfo := pool [(1, u "java/io/Serializable"), (0, .class_ 1), (0, u "java/lang/Object"), (0, .class_ 3)] 3

/-- java/io/Serializable -/
def k5 : Class := { plain "java/io/Serializable" (some 0) with
  accessFlags := 1537
  interfaces := #[]
  cf := some (fileOf pool5 2 #[] #[] 1537 4 #[] #[])
  fields := #[]
  methods := #[]
  instanceTypes := #[]
  staticTypes := #[]
  resolved := Array.replicate 8 none
  statics := none }

/-- the primitive byte -/
def k6 : Class := { plain "byte" none with kind := .primitive 'B', accessFlags := 0x411 }
/-- [B -/
def k7 : Class := { plain "[B" (some 0) with kind := .array 6 .byte, interfaces := #[4, 5], accessFlags := 1041 }

/-- the primitive int -/
def k8 : Class := { plain "int" none with kind := .primitive 'I', accessFlags := 0x411 }
/-- [I -/
def k9 : Class := { plain "[I" (some 0) with kind := .array 8 .int, interfaces := #[4, 5], accessFlags := 1041 }

def heap : Heap := #[]
def classes : Array Class := #[k0, k1, k2, k3, k4, k5, k6, k7, k8, k9]
def interned : List (Array UInt16 × Addr) := []
def slotsUsed : Nat := 0
def theMethod : MethodId := ⟨1, 1⟩
def args0 : Array Value := #[.long 5, .int 5, .int 5, .int 5, .long 5]
def aboutOver (below : List Frame) : State where
  vm := { classes := classes, interned := interned.toArray }
  heap := heap
  slotsUsed := slotsUsed
  threads := #[{ frames := .invoking theMethod args0 :: below }]
def below0 : List Frame := [.native { method := ⟨0, 0⟩, args := #[] }]
def about1 : State := aboutOver below0
def p0 : Program := .bare "" "" ""
def e0 : Env := launch0.env 0 0 0
theorem w_frames : about1.frames = Frame.invoking theMethod args0 :: below0 := rfl
set_option maxRecDepth 65536 in
theorem w_args : argsFit about1.vm theMethod args0 = true := by decide +kernel
set_option maxRecDepth 65536 in
theorem w_heap : heapFits about1 = true := by decide +kernel
set_option maxRecDepth 65536 in
theorem w_runnable : about1.curStatus? = some .runnable := by decide +kernel
set_option maxRecDepth 65536 in
theorem w_alone : about1.alone = true := by decide +kernel
set_option maxRecDepth 65536 in
theorem w_named : about1.methodNamed? x = some theMethod := by decide +kernel
set_option maxRecDepth 65536 in
theorem w_hears : about1.hears theMethod below0 = true := by decide +kernel
set_option maxRecDepth 65536 in
theorem w_ripe : about1.ripe theMethod args0 below0 = true := by decide +kernel
theorem w_running : about1.status = .running := rfl
set_option maxRecDepth 65536 in
theorem w_room : about1.hasRoom e0.platform room_1 = true :=
  launch0.hasRoom_least _ room_1 (by decide +kernel) (by decide +kernel) (by decide +kernel) (by decide +kernel) (by decide +kernel) (by decide +kernel)
theorem allAtoms_all (ts : List Jvm.Cond) (a : Array Jvm.Value) (st : Jvm.State) : (allAtoms ts).before a st = ts.all (fun c => c.before a st) := by
  induction ts with
  | nil => rfl
  | cons c t ih =>
    show (Jvm.Cond.and c (allAtoms t)).before a st = _
    rw [Jvm.Cond.before_and, ih, List.all_cons]
def words1 : List Jvm.Cond := Jvm.Cond.code x code maxLocals ret :: tables_1
/-- a 'code' word, met by the world's own term for the bytes: nothing is compared byte by byte -/
theorem code_word {y : MethodName} {bytes : ByteArray} {mx : Nat} {rt : Option FieldType} {a : Array Value} {s : State} {m : MethodId} {meth : Method} {c : Code} (h1 : s.methodNamed? y = some m) (h2 : s.vm.method? m = some meth) (h3 : meth.code = some c) (h4 : c.code = bytes)
    (h5 : (c.maxLocals == mx && c.exceptionTable.isEmpty && decide (c.maxStack ≤ mostOperands) && decide (meth.sig.returnType = rt) && !meth.locks && decide (parseMethodDescriptor y.desc = some meth.sig)) = true) : (Jvm.Cond.code y bytes mx rt).before a s = true := by
  simp only [Bool.and_eq_true, beq_iff_eq, Bool.not_eq_true', decide_eq_true_eq] at h5
  obtain ⟨⟨⟨⟨⟨g1, g2⟩, g3⟩, g4⟩, g5⟩, g6⟩ := h5
  simp [Cond.before, Cond.holds, Cond.value, h1, h2, h3, h4, g1, g2, g3, g4, g5, g6]
def isCode : Jvm.Cond → Bool
  | .code _ _ _ _ => true
  | _ => false
theorem all_split {L : List Jvm.Cond} {P : Jvm.Cond → Bool} (h1 : L.all (fun c => isCode c || P c) = true) (h2 : ∀ c ∈ L.filter isCode, P c = true) : L.all P = true := by
  refine List.all_eq_true.mpr fun c hc => ?_
  have h := List.all_eq_true.mp h1 c hc
  rcases Bool.eq_false_or_eq_true (isCode c) with hi | hi
  · exact h2 c (List.mem_filter.mpr ⟨hc, hi⟩)
  · simpa [hi] using h
set_option maxRecDepth 65536 in
theorem w_c0 : (Jvm.Cond.code x code maxLocals ret).before args0 about1 = true := code_word (m := ⟨1, 1⟩) (meth := k1m1) (c := k1c1) (by decide +kernel) rfl rfl rfl (by decide +kernel)
set_option maxRecDepth 65536 in
theorem w_c1 : (Jvm.Cond.code ({ cls := "org/driftsieve/ItemRecord$Copy", name := "<init>", desc := "(Lorg/driftsieve/VersionId;JII)V" } : Jvm.MethodName) prog_7_method_1_code (6 : Nat) (Option.none : Option Jvm.ClassFile.FieldType)).before args0 about1 = true := code_word (m := ⟨3, 0⟩) (meth := k3m0) (c := k3c0) (by decide +kernel) rfl rfl rfl (by decide +kernel)
set_option maxRecDepth 65536 in
theorem w_c2 : (Jvm.Cond.code ({ cls := "java/lang/Record", name := "<init>", desc := "()V" } : Jvm.MethodName) jdk_30_method_1_code (1 : Nat) (Option.none : Option Jvm.ClassFile.FieldType)).before args0 about1 = true := code_word (m := ⟨2, 0⟩) (meth := k2m0) (c := k2c0) (by decide +kernel) rfl rfl rfl (by decide +kernel)
set_option maxRecDepth 65536 in
theorem w_c3 : (Jvm.Cond.code ({ cls := "java/lang/Object", name := "<init>", desc := "()V" } : Jvm.MethodName) object_method_1_code (1 : Nat) (Option.none : Option Jvm.ClassFile.FieldType)).before args0 about1 = true := code_word (m := ⟨0, 0⟩) (meth := k0m0) (c := k0c0) (by decide +kernel) rfl rfl rfl (by decide +kernel)
set_option maxRecDepth 65536 in
theorem w_c4 : (Jvm.Cond.code ({ cls := "org/driftsieve/ItemRecord$Copy", name := "isDeletion", desc := "()Z" } : Jvm.MethodName) prog_7_method_4_code (1 : Nat) (Option.some Jvm.ClassFile.FieldType.boolean)).before args0 about1 = true := code_word (m := ⟨3, 1⟩) (meth := k3m1) (c := k3c1) (by decide +kernel) rfl rfl rfl (by decide +kernel)
set_option maxRecDepth 65536 in
theorem w_c5 : (Jvm.Cond.code ({ cls := "org/driftsieve/ItemRecord$Copy", name := "withOffset", desc := "(J)Lorg/driftsieve/ItemRecord$Copy;" } : Jvm.MethodName) prog_7_method_7_code (3 : Nat) (Option.some (Jvm.ClassFile.FieldType.object "org/driftsieve/ItemRecord$Copy"))).before args0 about1 = true := code_word (m := ⟨3, 2⟩) (meth := k3m2) (c := k3c2) (by decide +kernel) rfl rfl rfl (by decide +kernel)
set_option maxRecDepth 65536 in
theorem w_c6 : (Jvm.Cond.code ({ cls := "org/driftsieve/ItemRecord$Copy", name := "length", desc := "()I" } : Jvm.MethodName) prog_7_method_14_code (1 : Nat) (Option.some Jvm.ClassFile.FieldType.int)).before args0 about1 = true := code_word (m := ⟨3, 3⟩) (meth := k3m3) (c := k3c3) (by decide +kernel) rfl rfl rfl (by decide +kernel)
def codes1 : List Jvm.Cond := [Jvm.Cond.code x code maxLocals ret, Jvm.Cond.code ({ cls := "org/driftsieve/ItemRecord$Copy", name := "<init>", desc := "(Lorg/driftsieve/VersionId;JII)V" } : Jvm.MethodName) prog_7_method_1_code (6 : Nat) (Option.none : Option Jvm.ClassFile.FieldType), Jvm.Cond.code ({ cls := "java/lang/Record", name := "<init>", desc := "()V" } : Jvm.MethodName) jdk_30_method_1_code (1 : Nat) (Option.none : Option Jvm.ClassFile.FieldType), Jvm.Cond.code ({ cls := "java/lang/Object", name := "<init>", desc := "()V" } : Jvm.MethodName) object_method_1_code (1 : Nat) (Option.none : Option Jvm.ClassFile.FieldType), Jvm.Cond.code ({ cls := "org/driftsieve/ItemRecord$Copy", name := "isDeletion", desc := "()Z" } : Jvm.MethodName) prog_7_method_4_code (1 : Nat) (Option.some Jvm.ClassFile.FieldType.boolean), Jvm.Cond.code ({ cls := "org/driftsieve/ItemRecord$Copy", name := "withOffset", desc := "(J)Lorg/driftsieve/ItemRecord$Copy;" } : Jvm.MethodName) prog_7_method_7_code (3 : Nat) (Option.some (Jvm.ClassFile.FieldType.object "org/driftsieve/ItemRecord$Copy")), Jvm.Cond.code ({ cls := "org/driftsieve/ItemRecord$Copy", name := "length", desc := "()I" } : Jvm.MethodName) prog_7_method_14_code (1 : Nat) (Option.some Jvm.ClassFile.FieldType.int)]
set_option maxRecDepth 65536 in
theorem codes_eq : words1.filter isCode = codes1 := rfl
theorem w_codes : ∀ c ∈ words1.filter isCode, c.before args0 about1 = true := by
  rw [codes_eq]
  intro c hc
  simp only [codes1, List.mem_cons, List.not_mem_nil, or_false] at hc
  rcases hc with rfl | rfl | rfl | rfl | rfl | rfl | rfl
  · exact w_c0
  · exact w_c1
  · exact w_c2
  · exact w_c3
  · exact w_c4
  · exact w_c5
  · exact w_c6
set_option maxRecDepth 65536 in
theorem w_t1 : (words1.take 24).all (fun c => isCode c || c.before args0 about1) = true := by decide +kernel
set_option maxRecDepth 65536 in
theorem w_t2 : (words1.drop 24).all (fun c => isCode c || c.before args0 about1) = true := by decide +kernel
theorem w_tables : (allAtoms (Jvm.Cond.code x code maxLocals ret :: tables_1)).before args0 about1 = true := by
  rw [allAtoms_all]
  show words1.all (fun c => c.before args0 about1) = true
  refine all_split ?_ w_codes
  rw [← List.take_append_drop 24 words1, List.all_append, w_t1, w_t2]
  rfl
set_option maxRecDepth 65536 in
theorem w_case : (Jvm.Cond.and given_1 narrow_1).before args0 about1 = true := by decide +kernel
theorem w_applies : (headSpec (Jvm.Cond.code x code maxLocals ret :: tables_1) room_1).applies x e0.platform about1 = true :=
  (Spec.applies_iff w_frames).mpr ⟨w_running, w_runnable, w_alone, w_named, w_hears, w_ripe, w_room, w_tables⟩
theorem atStart : AtStart classFile x code maxLocals ret World_1 tables_1 room_1 Calls_1 rest_1 Pre_1 launch0 p0 e0 about1 theMethod args0 below0 :=
  ⟨lists_1, trivial, launch0.admits_env _ _ _, launch0.least_env, fairChoices_fair.cas, fairChoices_fair.clock, w_frames, w_args, w_heap, w_applies, trivial, trivial, w_case⟩
end start1
theorem witness_1 : WitnessClaimed_1 := ⟨start1.p0, start1.e0, start1.about1, start1.theMethod, start1.args0, start1.below0, start1.atStart⟩
end Jvm.Pilot.@@N@@
