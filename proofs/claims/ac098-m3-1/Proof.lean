import JvmDerived
import JvmDerived.Pilot.@@N@@Statement
import JvmDerived.Pilot.@@N@@Code
set_option linter.unusedVariables false
set_option linter.unusedSimpArgs false
namespace Jvm.RoadKit
open Sem ClassFile Op Lib Jvm.Stand Jvm.Free Jvm.LawKit
section New
variable {p : Program} {l : Launch} {e : Env} {R : Room} {s : State} {m : MethodId} {args : Array Value} {below : List Frame} {meth : Method} {c : Code} {T : State} {locs : List Loc} {cells slots : Nat}
theorem own_retI (X : Stand p l e R s m args below meth c T locs cells slots) (hx : p.tables.exec = Jvm.exec) {pc : Nat} {Ls : Array Slot} {z : Int32} {rest : List Value} (hret : meth.sig.returnType = some .int) (hd : decode c.code pc = .ok (.ireturn, 1)) {fs : List Frame}
    (hl : ∀ (f : JFrame) (acts : List Action), f.method = m → f.locked = none → f.entered = [] → (doReturn e (T.setTop f) acts (some (.int z))).1 = T.setFrames fs) : Steps p.tables e below (T.setTop (mkF m pc Ls (.int z :: rest))) (T.setFrames fs) :=
  retOut X hx hret rfl (Or.inl ⟨rfl, Or.inl rfl, z, rfl⟩) hd hl
theorem own_retL (X : Stand p l e R s m args below meth c T locs cells slots) (hx : p.tables.exec = Jvm.exec) {pc : Nat} {Ls : Array Slot} {z : Int64} {rest : List Value} (hret : meth.sig.returnType = some .long) (hd : decode c.code pc = .ok (.lreturn, 1)) {fs : List Frame}
    (hl : ∀ (f : JFrame) (acts : List Action), f.method = m → f.locked = none → f.entered = [] → (doReturn e (T.setTop f) acts (some (.long z))).1 = T.setFrames fs) : Steps p.tables e below (T.setTop (mkF m pc Ls (.long z :: rest))) (T.setFrames fs) :=
  retOut X hx hret rfl (Or.inr (Or.inl ⟨rfl, rfl, z, rfl⟩)) hd hl
theorem own_retA (X : Stand p l e R s m args below meth c T locs cells slots) (hx : p.tables.exec = Jvm.exec) {pc : Nat} {Ls : Array Slot} {w : Value} {t : FieldType} {rest : List Value} (hret : meth.sig.returnType = some t) (ht : t.isReference = true) (hw : w.isRef = true) (hn : narrow t w = w) (hd : decode c.code pc = .ok (.areturn, 1)) {fs : List Frame}
    (hl : ∀ (f : JFrame) (acts : List Action), f.method = m → f.locked = none → f.entered = [] → (doReturn e (T.setTop f) acts (some w)).1 = T.setFrames fs) : Steps p.tables e below (T.setTop (mkF m pc Ls (w :: rest))) (T.setFrames fs) :=
  retOut X hx hret hn (Or.inr (Or.inr (Or.inr (Or.inr ⟨rfl, ht, hw⟩)))) hd hl
theorem own_lremM {g : JFrame} {target : State} (X : Stand p l e R s m args below meth c T locs cells slots) (hx : p.tables.exec = Jvm.exec) (hg : g.method = m) {x y : Int64} {rest : List Value} (hd : decode c.code g.pc = .ok (.lrem, 1)) (hs : g.stack = .long y :: .long x :: rest) (hy : y ≠ 0)
    (hr : Steps p.tables e below (T.setTop { g with pc := g.pc + 1, stack := .long (x % y) :: rest }) target) : Steps p.tables e below (T.setTop g) target := by
  have q : x - x / y * y = x % y := lrem_mod x y
  exact XS.lrem X.here hx hg hd hs hy (by rw [q]; exact hr)
theorem own_selp {Z s : State} {a0 args : Array Value} {y : MethodName} {n : Nat} (hZ : Z.Warmed39 s.vm) (wi : (Cond.instantiable y.cls n).before a0 Z = true) (wp : (Cond.privateMethod y).before a0 Z = true) (wm : (Cond.instanceMethod y).before a0 Z = true)
    (hy : y.cls ≠ "java/lang/invoke/MethodHandle" ∧ y.cls ≠ "java/lang/invoke/VarHandle") : (Cond.selects y.cls y y).before args s = true := by
  obtain ⟨c, k, h1, h2, h3, h4, -⟩ := Cond.instantiable_spec (mvT (args := args) hZ wi)
  exact selects_self_of_private h1 h2 (by simp only [Bool.or_eq_false_iff] at h4; exact h4.1) (Cond.privateMethod_at (mvP hZ wp (args := #[]))) (mvT hZ wm) hy
end New
end Jvm.RoadKit
namespace Jvm.Pilot.@@N@@
open Jvm Jvm.ClassFile Sem Op Lib Jvm.Free Jvm.Stand Jvm.LawKit Jvm.RoadKit Bundle Jvm.Pilot.@@N@@.Jvm.D
def own_of (c : Int32) (u0 u1 u2 u3 u4 : Addr) : Value := if c = 0 then .ref u0 else if c = 1 then .ref u1 else if c = 2 then .ref u2 else if c = 3 then .ref u3 else if c = 4 then .ref u4 else .null
theorem own_of_ref (c : Int32) (u0 u1 u2 u3 u4 : Addr) : (own_of c u0 u1 u2 u3 u4).isRef = true ∧ (own_of c u0 u1 u2 u3 u4).category = 1 := by
  unfold own_of
  by_cases h0 : c = 0
  · rw [if_pos h0]; exact ⟨rfl, rfl⟩
  rw [if_neg h0]; by_cases h1 : c = 1
  · rw [if_pos h1]; exact ⟨rfl, rfl⟩
  rw [if_neg h1]; by_cases h2 : c = 2
  · rw [if_pos h2]; exact ⟨rfl, rfl⟩
  rw [if_neg h2]; by_cases h3 : c = 3
  · rw [if_pos h3]; exact ⟨rfl, rfl⟩
  rw [if_neg h3]; by_cases h4 : c = 4
  · rw [if_pos h4]; exact ⟨rfl, rfl⟩
  rw [if_neg h4]; exact ⟨rfl, rfl⟩
theorem own_of_or {P : Addr → Int32 → Prop} {u0 u1 u2 u3 u4 : Addr} (p0 : P u0 0) (p1 : P u1 1) (p2 : P u2 2) (p3 : P u3 3) (p4 : P u4 4) (c : Int32) : own_of c u0 u1 u2 u3 u4 = .null ∨ ∃ u, own_of c u0 u1 u2 u3 u4 = .ref u ∧ P u c := by
  unfold own_of
  by_cases h0 : c = 0
  · rw [if_pos h0]; exact Or.inr ⟨u0, rfl, h0 ▸ p0⟩
  rw [if_neg h0]; by_cases h1 : c = 1
  · rw [if_pos h1]; exact Or.inr ⟨u1, rfl, h1 ▸ p1⟩
  rw [if_neg h1]; by_cases h2 : c = 2
  · rw [if_pos h2]; exact Or.inr ⟨u2, rfl, h2 ▸ p2⟩
  rw [if_neg h2]; by_cases h3 : c = 3
  · rw [if_pos h3]; exact Or.inr ⟨u3, rfl, h3 ▸ p3⟩
  rw [if_neg h3]; by_cases h4 : c = 4
  · rw [if_pos h4]; exact Or.inr ⟨u4, rfl, h4 ▸ p4⟩
  rw [if_neg h4]; exact Or.inl rfl
theorem own_eqref {args : Array Value} {first s : State} {o : Option Outcome} {idx : List Nat} {a b : Term} {u : Addr} (h : (Jvm.Cond.eq a b).value args first o s idx = some true) (hb : b.eval args first o idx s = some (.ref u)) : a.eval args first o idx s = some (.ref u) := by
  obtain ⟨x, y, h1, h2, h3, h4⟩ := cmp_v (Or.inl h)
  cases hb.symm.trans h2
  have hx : x.isRef = true := by cases x <;> first | rfl | exact h4.2 | (obtain ⟨z, q⟩ := h3; cases q)
  have e := gotT (eq_R h1 hb hx rfl) h
  rw [h1, e]
def Q2 (Z : State) (k : ClassId) (u0 u1 u2 u3 u4 : Addr) (h0 : Heap) (n0 : Nat) (v : Option Value) (h : Heap) (L : List Loc) : Prop := ∃ b : Addr, v = some (.ref b) ∧ Fr n0 L ∧ Ext h0 h ∧ Arv Z h b k (.object "org/driftsieve/ItemRecord$Unselected$Kind") (5 : Int32) [(.ref u0), (.ref u1), (.ref u2), (.ref u3), (.ref u4)] .null
theorem d2_0 : decode prog_13_method_1_code 0 = .ok (.getstatic 19, 3) := by decide +kernel
theorem d2_3 : decode prog_13_method_1_code 3 = .ok (.invokevirtual 23, 3) := by decide +kernel
theorem d2_6 : decode prog_13_method_1_code 6 = .ok (.checkcast 24, 3) := by decide +kernel
theorem d2_9 : decode prog_13_method_1_code 9 = .ok (.areturn, 1) := by decide +kernel
theorem pn_org_driftsieve_ItemRecord_Unselected_Kind : plainName "org/driftsieve/ItemRecord$Unselected$Kind" = true := by first | (simp [plainName, overriddenIn]; done) | decide +kernel
theorem ef_rm2 (m : MethodId)  : entryFrame m #[] 0 = mkF m 0 #[] [] := by first | (simp [entryFrame, mkF, argsToLocals, Value.category]; done) | rfl
set_option maxRecDepth 65536 in
set_option maxHeartbeats 40000000 in
theorem rm2 (l : Launch) (Z : State) (a0 : Array Value) (hw : ∀ d ∈ tables_1, d.before a0 Z = true) (ws : List Jvm.Cond) (k : ClassId) (uv u0 u1 u2 u3 u4 : Addr) (h0 : Heap) (n0 : Nat) (Z0 : n0 ≤ h0.size) (SV : Sta Z h0 "org/driftsieve/ItemRecord$Unselected$Kind" "$VALUES" "[Lorg/driftsieve/ItemRecord$Unselected$Kind;" (.ref uv)) (EV : Exa Z h0 uv "[Lorg/driftsieve/ItemRecord$Unselected$Kind;") (VV : Arv Z h0 uv k (.object "org/driftsieve/ItemRecord$Unselected$Kind") (5 : Int32) [(.ref u0), (.ref u1), (.ref u2), (.ref u3), (.ref u4)] .null) :
    MetFree l (⟨"org/driftsieve/ItemRecord$Unselected$Kind", "values", "()[Lorg/driftsieve/ItemRecord$Unselected$Kind;"⟩ : MethodName) (head1 (Jvm.Cond.code (⟨"org/driftsieve/ItemRecord$Unselected$Kind", "values", "()[Lorg/driftsieve/ItemRecord$Unselected$Kind;"⟩ : MethodName) prog_13_method_1_code 0 (some (.array (.object "org/driftsieve/ItemRecord$Unselected$Kind"))) :: ws) ({ frames := 1, cells := 1, slots := 5, locals := 14 } : Room)) (fun a U => a = #[] ∧ Z.Warmed39 U.vm ∧ U.heap = h0) (fun _ _ _ _ _ => True) (fun _ U o U' => ∃ v L, o = .returned v ∧ Q2 Z k u0 u1 u2 u3 u4 h0 n0 v U'.heap L ∧ FrameEnd U o U' L ({ frames := 1, cells := 1, slots := 5, locals := 14 } : Room).cells ({ frames := 1, cells := 1, slots := 5, locals := 14 } : Room).slots) := by
  refine MetFree.of_bodySF (plainFor_of_name pn_org_driftsieve_ItemRecord_Unselected_Kind) hisR ?_
  intro p e s m args below meth c s₁ Bd hml0 hP hK
  obtain ⟨rfl, hZ, hh⟩ := hP
  have hx := Bd.exec
  have hby := Bd.bytes
  have hml : c.maxLocals = 0 := hml0
  have hown : s.vm.findClass "org/driftsieve/ItemRecord$Unselected$Kind" = some m.cls := findClass_of_methodNamed Bd.named
  have hnm := (name_of_methodNamed Bd.named Bd.method).1
  have X0 : Stand p l e ({ frames := 1, cells := 1, slots := 5, locals := 14 } : Room) s m #[] below meth c s₁ [] 0 0 := Stand.of_body Bd
  have e0 : s₁.heap = h0 := by rw [← hh, Bd.state]; rfl
  have N0 := Fr.nil n0
  have KP0 : Keep h0 h0 [] := Keep.refl h0 _
  obtain ⟨G, hG⟩ : ∃ G : State, G = s₁.setTop (entryFrame m #[] 0) := ⟨_, rfl⟩
  have pre0 : ∀ t, Steps p.tables e below (s₁.setTop (mkF m 0 #[] [])) t → Steps p.tables e below G t := fun t k => hG ▸ castTop (ef_rm2 m ) k
  obtain ⟨T1, X1, e1, st1⟩ := getS2 X0 hx hZ hown (host := "") (Or.inl (hw _ (List.mem_of_getElem? (i := 7) rfl))) Via.refl e0 SV (g := (mkF m 0 #[] [])) rfl (hb hby d2_0)
  have K2 : ∀ t, Steps p.tables e below (T1.setTop (mkF m 3 #[] [(.ref uv)])) t → Steps p.tables e below G t := fun t k => pre0 t (st1 t k)
  obtain ⟨T3, h3, X3, e3, E3, V3, A3, st3⟩ := cloneH X1 hx hZ hown (hw _ (List.mem_of_getElem? (i := 9) rfl)) (hw _ (List.mem_of_getElem? (i := 10) rfl)) (hw _ (List.mem_of_getElem? (i := 14) rfl)) (hw _ (List.mem_of_getElem? (i := 12) rfl)) (hw _ (List.mem_of_getElem? (i := 13) rfl)) (hw _ (List.mem_of_getElem? (i := 15) rfl)) e1 (hs := []) VV EV (g := (mkF m 3 #[] [(.ref uv)])) rfl (by rw [hml]; rfl) rfl (hb hby d2_3) (by decide) (W := 0) (cap := 5) (by show 2 * 0 + _ ≤ _; exact Nat.le_of_eq rfl) (by decide) (by decide) (by decide) (by decide)
  have K4 : ∀ t, Steps p.tables e below (T3.setTop (mkF m 6 #[] [(.ref h0.size)])) t → Steps p.tables e below G t := fun t k => K2 t (st3 t k)
  obtain ⟨T5, X5, e5, st5⟩ := castY X3 hx hZ hown (hw _ (List.mem_of_getElem? (i := 22) rfl)) e3 (Ins.self A3) (g := (mkF m 6 #[] [(.ref h0.size)])) rfl rfl (hb hby d2_6)
  have K6 : ∀ t, Steps p.tables e below (T5.setTop (mkF m 9 #[] [(.ref h0.size)])) t → Steps p.tables e below G t := fun t k => K4 t (st5 t k)
  obtain ⟨fs, hr, hrun, hended, hW, hsame⟩ := X5.leave (v := some (.ref h0.size)) (fun h => by rw [Bd.returns] at h; cases h)
  have KF := K6
  rw [hG] at KF
  refine ⟨_, _, KF _ ?_, hrun, hended, _, _, rfl, ?_, ⟨_, rfl⟩, hW, hsame.mono (by decide) (by decide)⟩
  · show Steps p.tables e below (T5.setTop (mkF m 9 #[] [(.ref h0.size)])) _
    exact own_retA X5 hx Bd.returns rfl rfl rfl (hb hby d2_9) hr
  · show Q2 Z k u0 u1 u2 u3 u4 h0 n0 _ T5.heap _
    rw [e5]
    exact ⟨_, rfl, N0, E3, V3⟩
def Q1 (p1 : Int32) (u0 u1 u2 u3 u4 : Addr) (h0 : Heap) (n0 : Nat) (v : Option Value) (h : Heap) (L : List Loc) : Prop := v = some (own_of p1 u0 u1 u2 u3 u4) ∧ Fr n0 L ∧ Ext h0 h
theorem d1_0 : decode prog_13_method_4_code 0 = .ok (.invokestatic 42, 3) := by decide +kernel
theorem d1_3 : decode prog_13_method_4_code 3 = .ok (.astore_n 1, 1) := by decide +kernel
theorem d1_4 : decode prog_13_method_4_code 4 = .ok (.aload_n 1, 1) := by decide +kernel
theorem d1_5 : decode prog_13_method_4_code 5 = .ok (.arraylength, 1) := by decide +kernel
theorem d1_6 : decode prog_13_method_4_code 6 = .ok (.istore_n 2, 1) := by decide +kernel
theorem d1_7 : decode prog_13_method_4_code 7 = .ok (.iconst 0, 1) := by decide +kernel
theorem d1_8 : decode prog_13_method_4_code 8 = .ok (.istore_n 3, 1) := by decide +kernel
theorem d1_9 : decode prog_13_method_4_code 9 = .ok (.iload_n 3, 1) := by decide +kernel
theorem d1_10 : decode prog_13_method_4_code 10 = .ok (.iload_n 2, 1) := by decide +kernel
theorem d1_11 : decode prog_13_method_4_code 11 = .ok (.if_icmp .ge 26, 3) := by decide +kernel
theorem d1_14 : decode prog_13_method_4_code 14 = .ok (.aload_n 1, 1) := by decide +kernel
theorem d1_15 : decode prog_13_method_4_code 15 = .ok (.iload_n 3, 1) := by decide +kernel
theorem d1_16 : decode prog_13_method_4_code 16 = .ok (.aaload, 1) := by decide +kernel
theorem d1_17 : decode prog_13_method_4_code 17 = .ok (.astore 4, 2) := by decide +kernel
theorem d1_19 : decode prog_13_method_4_code 19 = .ok (.aload 4, 2) := by decide +kernel
theorem d1_21 : decode prog_13_method_4_code 21 = .ok (.getfield 38, 3) := by decide +kernel
theorem d1_24 : decode prog_13_method_4_code 24 = .ok (.iload_n 0, 1) := by decide +kernel
theorem d1_25 : decode prog_13_method_4_code 25 = .ok (.if_icmp .ne 6, 3) := by decide +kernel
theorem d1_28 : decode prog_13_method_4_code 28 = .ok (.aload 4, 2) := by decide +kernel
theorem d1_30 : decode prog_13_method_4_code 30 = .ok (.areturn, 1) := by decide +kernel
theorem d1_31 : decode prog_13_method_4_code 31 = .ok (.iinc 3 1, 3) := by decide +kernel
theorem d1_34 : decode prog_13_method_4_code 34 = .ok (.goto (-25), 3) := by decide +kernel
theorem d1_37 : decode prog_13_method_4_code 37 = .ok (.aconst_null, 1) := by decide +kernel
theorem d1_38 : decode prog_13_method_4_code 38 = .ok (.areturn, 1) := by decide +kernel
theorem pd_0 : parseMethodDescriptor "()[Lorg/driftsieve/ItemRecord$Unselected$Kind;" = some ⟨[], some (.array (.object "org/driftsieve/ItemRecord$Unselected$Kind"))⟩ := by decide +kernel
theorem ef_rm1 (m : MethodId) (x0 : Int32) : entryFrame m #[(.int x0)] 5 = mkF m 0 #[.val (.int x0), .unset, .unset, .unset, .unset] [] := by first | (simp [entryFrame, mkF, argsToLocals, Value.category]; done) | rfl
set_option maxRecDepth 65536 in
set_option maxHeartbeats 40000000 in
theorem rm1 (l : Launch) (Z : State) (a0 : Array Value) (hw : ∀ d ∈ tables_1, d.before a0 Z = true) (ws : List Jvm.Cond) (p1 : Int32) (k : ClassId) (uv u0 u1 u2 u3 u4 : Addr) (h0 : Heap) (n0 : Nat) (Z0 : n0 ≤ h0.size) (SV : Sta Z h0 "org/driftsieve/ItemRecord$Unselected$Kind" "$VALUES" "[Lorg/driftsieve/ItemRecord$Unselected$Kind;" (.ref uv)) (EV : Exa Z h0 uv "[Lorg/driftsieve/ItemRecord$Unselected$Kind;") (VV : Arv Z h0 uv k (.object "org/driftsieve/ItemRecord$Unselected$Kind") (5 : Int32) [(.ref u0), (.ref u1), (.ref u2), (.ref u3), (.ref u4)] .null) (F0 : Fld Z h0 u0 "org/driftsieve/ItemRecord$Unselected$Kind" "code" "I" (.int (0 : Int32))) (F1 : Fld Z h0 u1 "org/driftsieve/ItemRecord$Unselected$Kind" "code" "I" (.int (1 : Int32))) (F2 : Fld Z h0 u2 "org/driftsieve/ItemRecord$Unselected$Kind" "code" "I" (.int (2 : Int32))) (F3 : Fld Z h0 u3 "org/driftsieve/ItemRecord$Unselected$Kind" "code" "I" (.int (3 : Int32))) (F4 : Fld Z h0 u4 "org/driftsieve/ItemRecord$Unselected$Kind" "code" "I" (.int (4 : Int32))) :
    MetFree l (⟨"org/driftsieve/ItemRecord$Unselected$Kind", "of", "(I)Lorg/driftsieve/ItemRecord$Unselected$Kind;"⟩ : MethodName) (head1 (Jvm.Cond.code (⟨"org/driftsieve/ItemRecord$Unselected$Kind", "of", "(I)Lorg/driftsieve/ItemRecord$Unselected$Kind;"⟩ : MethodName) prog_13_method_4_code 5 (some (.object "org/driftsieve/ItemRecord$Unselected$Kind")) :: ws) ({ frames := 2, cells := 1, slots := 5, locals := 25 } : Room)) (fun a U => a = #[(.int p1)] ∧ Z.Warmed39 U.vm ∧ U.heap = h0) (fun _ _ _ _ _ => True) (fun _ U o U' => ∃ v L, o = .returned v ∧ Q1 p1 u0 u1 u2 u3 u4 h0 n0 v U'.heap L ∧ FrameEnd U o U' L ({ frames := 2, cells := 1, slots := 5, locals := 25 } : Room).cells ({ frames := 2, cells := 1, slots := 5, locals := 25 } : Room).slots) := by
  refine MetFree.of_bodySF (plainFor_of_name pn_org_driftsieve_ItemRecord_Unselected_Kind) hisR ?_
  intro p e s m args below meth c s₁ Bd hml0 hP hK
  obtain ⟨rfl, hZ, hh⟩ := hP
  have hx := Bd.exec
  have hby := Bd.bytes
  have hml : c.maxLocals = 5 := hml0
  have hown : s.vm.findClass "org/driftsieve/ItemRecord$Unselected$Kind" = some m.cls := findClass_of_methodNamed Bd.named
  have hnm := (name_of_methodNamed Bd.named Bd.method).1
  have X0 : Stand p l e ({ frames := 2, cells := 1, slots := 5, locals := 25 } : Room) s m #[(.int p1)] below meth c s₁ [] 0 0 := Stand.of_body Bd
  have e0 : s₁.heap = h0 := by rw [← hh, Bd.state]; rfl
  have N0 := Fr.nil n0
  have KP0 : Keep h0 h0 [] := Keep.refl h0 _
  obtain ⟨G, hG⟩ : ∃ G : State, G = s₁.setTop (entryFrame m #[(.int p1)] 5) := ⟨_, rfl⟩
  have pre0 : ∀ t, Steps p.tables e below (s₁.setTop (mkF m 0 #[.val (.int p1), .unset, .unset, .unset, .unset] [])) t → Steps p.tables e below G t := fun t k => hG ▸ castTop (ef_rm1 m p1) k
  obtain ⟨_, _, ⟨T1, L1, k1, n1⟩, -, X1, ⟨Lc1, hQ1, l1, y1, z1⟩, st1⟩ := Jvm.LawKit.callS X0 hx (y := (⟨"org/driftsieve/ItemRecord$Unselected$Kind", "values", "()[Lorg/driftsieve/ItemRecord$Unselected$Kind;"⟩ : MethodName)) hown (mvT hZ (hw _ (List.mem_of_getElem? (i := 4) rfl))) (mvT hZ (hw _ (List.mem_of_getElem? (i := 5) rfl))) (mvT hZ (hw _ (List.mem_of_getElem? (i := 2) rfl))) (mvT hZ (hw _ (List.mem_of_getElem? (i := 6) rfl))) (by decide) (backOf (W := 0) (rm2 l Z a0 hw [] k uv u0 u1 u2 u3 u4 h0 n0 Z0 SV EV VV) hZ (hw _ (List.mem_of_getElem? (i := 6) rfl)) (hw _ (List.mem_of_getElem? (i := 2) rfl)) (by decide) (by decide)) (g := (mkF m 0 #[.val (.int p1), .unset, .unset, .unset, .unset] [])) rfl (by rw [hml]; rfl) (argsL := []) (rest := []) (lenOf pd_0 rfl) rfl (by show 2 * 0 + _ ≤ _; exact Nat.le_of_eq rfl) (hb hby d1_0) (fun _ _ => ⟨rfl, e0, (by decide : 0 + 1 ≤ _), (by decide : 0 + 5 ≤ _)⟩)
  dsimp only [Pt.U, Pt.locs, Pt.cells, Pt.slots] at X1 l1 y1 z1 st1 hQ1
  subst l1 y1 z1
  obtain ⟨b1, rfl, Nq1, EX1, VB1⟩ := hQ1
  have N2 := Fr.app N0 Nq1
  have f3 := SV.ext EX1
  have f4 := F0.ext EX1
  have f5 := F1.ext EX1
  have f6 := F2.ext EX1
  have f7 := F3.ext EX1
  have f8 := F4.ext EX1
  have Z9 : n0 ≤ T1.heap.size := Nat.le_trans Z0 EX1.1
  have KP10 : Keep h0 T1.heap [] := KP0.ext EX1
  have K11 : ∀ t, Steps p.tables e below (T1.setTop (mkF m 3 #[.val (.int p1), .unset, .unset, .unset, .unset] [(.ref b1)])) t → Steps p.tables e below G t := fun t k => pre0 t (st1 _ k)
  have K12 : ∀ t, Steps p.tables e below (T1.setTop (mkF m 5 #[.val (.int p1), .val (.ref b1), .unset, .unset, .unset] [(.ref b1)])) t → Steps p.tables e below G t := by
    intro t k
    refine K11 t ?_
    show Steps p.tables e below (T1.setTop (mkF m 3 #[.val (.int p1), .unset, .unset, .unset, .unset] [(.ref b1)])) _
    refine XS.astoreN X1.here hx rfl (hb hby d1_3) rfl rfl (l' := #[.val (.int p1), .val (.ref b1), .unset, .unset, .unset]) rfl ?_
    show Steps p.tables e below (T1.setTop (mkF m 4 #[.val (.int p1), .val (.ref b1), .unset, .unset, .unset] [])) _
    refine XS.aloadN X1.here hx rfl (hb hby d1_4) rfl rfl ?_
    show Steps p.tables e below (T1.setTop (mkF m 5 #[.val (.int p1), .val (.ref b1), .unset, .unset, .unset] [(.ref b1)])) _
    exact k
  obtain ⟨cl13, Ar13, -, S13, M13, -, -⟩ := id VB1
  have K14 : ∀ t, Steps p.tables e below (T1.setTop (mkF m 6 #[.val (.int p1), .val (.ref b1), .unset, .unset, .unset] [(.int (5 : Int32))])) t → Steps p.tables e below G t := by
    intro t k
    refine K12 t ?_
    refine X1.arraylength hx Ar13.1 (State.isArrayOf_alike hZ.alike Ar13.2.1) (g := (mkF m 5 #[.val (.int p1), .val (.ref b1), .unset, .unset, .unset] [(.ref b1)])) rfl rfl (hb hby d1_5) _ ?_
    rw [len_of S13 M13]
    exact k
  have K15 : ∀ t, Steps p.tables e below (T1.setTop (mkF m 16 #[.val (.int p1), .val (.ref b1), .val (.int (5 : Int32)), .val (.int (0 : Int32)), .unset] [(.int (0 : Int32)), (.ref b1)])) t → Steps p.tables e below G t := by
    intro t k
    refine K14 t ?_
    show Steps p.tables e below (T1.setTop (mkF m 6 #[.val (.int p1), .val (.ref b1), .unset, .unset, .unset] [(.int (5 : Int32))])) _
    refine XS.istoreN X1.here hx rfl (hb hby d1_6) rfl (l' := #[.val (.int p1), .val (.ref b1), .val (.int (5 : Int32)), .unset, .unset]) rfl ?_
    show Steps p.tables e below (T1.setTop (mkF m 7 #[.val (.int p1), .val (.ref b1), .val (.int (5 : Int32)), .unset, .unset] [])) _
    refine XS.iconst X1.here hx rfl (hb hby d1_7) ?_
    show Steps p.tables e below (T1.setTop (mkF m 8 #[.val (.int p1), .val (.ref b1), .val (.int (5 : Int32)), .unset, .unset] [(.int (0 : Int32))])) _
    refine XS.istoreN X1.here hx rfl (hb hby d1_8) rfl (l' := #[.val (.int p1), .val (.ref b1), .val (.int (5 : Int32)), .val (.int (0 : Int32)), .unset]) rfl ?_
    show Steps p.tables e below (T1.setTop (mkF m 9 #[.val (.int p1), .val (.ref b1), .val (.int (5 : Int32)), .val (.int (0 : Int32)), .unset] [])) _
    refine XS.iloadN X1.here hx rfl (hb hby d1_9) rfl ?_
    show Steps p.tables e below (T1.setTop (mkF m 10 #[.val (.int p1), .val (.ref b1), .val (.int (5 : Int32)), .val (.int (0 : Int32)), .unset] [(.int (0 : Int32))])) _
    refine XS.iloadN X1.here hx rfl (hb hby d1_10) rfl ?_
    show Steps p.tables e below (T1.setTop (mkF m 11 #[.val (.int p1), .val (.ref b1), .val (.int (5 : Int32)), .val (.int (0 : Int32)), .unset] [(.int (5 : Int32)), (.int (0 : Int32))])) _
    refine XS.icmpNo X1.here hx rfl (hb hby d1_11) rfl (tlt (by decide)).2.1 ?_
    show Steps p.tables e below (T1.setTop (mkF m 14 #[.val (.int p1), .val (.ref b1), .val (.int (5 : Int32)), .val (.int (0 : Int32)), .unset] [])) _
    refine XS.aloadN X1.here hx rfl (hb hby d1_14) rfl rfl ?_
    show Steps p.tables e below (T1.setTop (mkF m 15 #[.val (.int p1), .val (.ref b1), .val (.int (5 : Int32)), .val (.int (0 : Int32)), .unset] [(.ref b1)])) _
    refine XS.iloadN X1.here hx rfl (hb hby d1_15) rfl ?_
    show Steps p.tables e below (T1.setTop (mkF m 16 #[.val (.int p1), .val (.ref b1), .val (.int (5 : Int32)), .val (.int (0 : Int32)), .unset] [(.int (0 : Int32)), (.ref b1)])) _
    exact k
  obtain ⟨cl16, Ar16, q16, S16, M16, Ha16, Ga16⟩ := id VB1
  have hin16 : ¬ ((0 : Int32) < 0 ∨ cl16.slots.size ≤ ((0 : Int32)).toNatClampNeg) := inb_of S16 ⟨by decide, by decide⟩
  have hat16 : cl16.slots[((0 : Int32)).toNatClampNeg]? = some (.ref u0) := Ha16.at hin16 rfl
  have K17 : ∀ t, Steps p.tables e below (T1.setTop (mkF m 17 #[.val (.int p1), .val (.ref b1), .val (.int (5 : Int32)), .val (.int (0 : Int32)), .unset] [(.ref u0)])) t → Steps p.tables e below G t := fun t k => K15 t (X1.aaload hx (j := (0 : Int32)) (v := (.ref u0)) Ar16.1 (State.isArrayOf_alike hZ.alike Ar16.2.1) rfl Ar16.2.2 hin16 hat16 (g := (mkF m 16 #[.val (.int p1), .val (.ref b1), .val (.int (5 : Int32)), .val (.int (0 : Int32)), .unset] [(.int (0 : Int32)), (.ref b1)])) rfl rfl (hb hby d1_16) _ k)
  have K18 : ∀ t, Steps p.tables e below (T1.setTop (mkF m 21 #[.val (.int p1), .val (.ref b1), .val (.int (5 : Int32)), .val (.int (0 : Int32)), .val (.ref u0)] [(.ref u0)])) t → Steps p.tables e below G t := by
    intro t k
    refine K17 t ?_
    show Steps p.tables e below (T1.setTop (mkF m 17 #[.val (.int p1), .val (.ref b1), .val (.int (5 : Int32)), .val (.int (0 : Int32)), .unset] [(.ref u0)])) _
    refine XS.astore X1.here hx rfl (hb hby d1_17) rfl rfl (l' := #[.val (.int p1), .val (.ref b1), .val (.int (5 : Int32)), .val (.int (0 : Int32)), .val (.ref u0)]) rfl ?_
    show Steps p.tables e below (T1.setTop (mkF m 19 #[.val (.int p1), .val (.ref b1), .val (.int (5 : Int32)), .val (.int (0 : Int32)), .val (.ref u0)] [])) _
    refine XS.aload X1.here hx rfl (hb hby d1_19) rfl rfl ?_
    show Steps p.tables e below (T1.setTop (mkF m 21 #[.val (.int p1), .val (.ref b1), .val (.int (5 : Int32)), .val (.int (0 : Int32)), .val (.ref u0)] [(.ref u0)])) _
    exact k
  obtain ⟨T19, X19, e19, st19⟩ := getF X1 hx hZ hown (host := "") (Or.inl (hw _ (List.mem_of_getElem? (i := 24) rfl))) Via.refl rfl f4 (g := (mkF m 21 #[.val (.int p1), .val (.ref b1), .val (.int (5 : Int32)), .val (.int (0 : Int32)), .val (.ref u0)] [(.ref u0)])) rfl rfl (hb hby d1_21)
  have K20 : ∀ t, Steps p.tables e below (T19.setTop (mkF m 24 #[.val (.int p1), .val (.ref b1), .val (.int (5 : Int32)), .val (.int (0 : Int32)), .val (.ref u0)] [(.int (0 : Int32))])) t → Steps p.tables e below G t := fun t k => K18 t (st19 t k)
  have K21 : ∀ t, Steps p.tables e below (T19.setTop (mkF m 25 #[.val (.int p1), .val (.ref b1), .val (.int (5 : Int32)), .val (.int (0 : Int32)), .val (.ref u0)] [(.int p1), (.int (0 : Int32))])) t → Steps p.tables e below G t := by
    intro t k
    refine K20 t ?_
    show Steps p.tables e below (T19.setTop (mkF m 24 #[.val (.int p1), .val (.ref b1), .val (.int (5 : Int32)), .val (.int (0 : Int32)), .val (.ref u0)] [(.int (0 : Int32))])) _
    refine XS.iloadN X19.here hx rfl (hb hby d1_24) rfl ?_
    show Steps p.tables e below (T19.setTop (mkF m 25 #[.val (.int p1), .val (.ref b1), .val (.int (5 : Int32)), .val (.int (0 : Int32)), .val (.ref u0)] [(.int p1), (.int (0 : Int32))])) _
    exact k
  by_cases hc22 : (0 : Int32) = p1
  · obtain ⟨fs, hr, hrun, hended, hW, hsame⟩ := X19.leave (v := some (.ref u0)) (fun h => by rw [Bd.returns] at h; cases h)
    have KF := K21
    rw [hG] at KF
    refine ⟨_, _, KF _ ?_, hrun, hended, _, _, rfl, ?_, ⟨_, rfl⟩, hW, hsame.mono (by decide) (by decide)⟩
    · show Steps p.tables e below (T19.setTop (mkF m 25 #[.val (.int p1), .val (.ref b1), .val (.int (5 : Int32)), .val (.int (0 : Int32)), .val (.ref u0)] [(.int p1), (.int (0 : Int32))])) _
      refine XS.icmpNo X19.here hx rfl (hb hby d1_25) rfl (teq hc22).2 ?_
      show Steps p.tables e below (T19.setTop (mkF m 28 #[.val (.int p1), .val (.ref b1), .val (.int (5 : Int32)), .val (.int (0 : Int32)), .val (.ref u0)] [])) _
      refine XS.aload X19.here hx rfl (hb hby d1_28) rfl rfl ?_
      show Steps p.tables e below (T19.setTop (mkF m 30 #[.val (.int p1), .val (.ref b1), .val (.int (5 : Int32)), .val (.int (0 : Int32)), .val (.ref u0)] [(.ref u0)])) _
      exact own_retA X19 hx Bd.returns rfl rfl rfl (hb hby d1_30) hr
    · show Q1 p1 u0 u1 u2 u3 u4 h0 n0 _ T19.heap _
      rw [e19]
      exact ⟨by simp only [own_of, if_pos (Eq.symm hc22)], N2, EX1⟩
  · have K23 : ∀ t, Steps p.tables e below (T19.setTop (mkF m 16 #[.val (.int p1), .val (.ref b1), .val (.int (5 : Int32)), .val (.int (1 : Int32)), .val (.ref u0)] [(.int (1 : Int32)), (.ref b1)])) t → Steps p.tables e below G t := by
      intro t k
      refine K21 t ?_
      show Steps p.tables e below (T19.setTop (mkF m 25 #[.val (.int p1), .val (.ref b1), .val (.int (5 : Int32)), .val (.int (0 : Int32)), .val (.ref u0)] [(.int p1), (.int (0 : Int32))])) _
      refine XS.icmpYes X19.here hx rfl (pc0 := 25) (pc' := 31) rfl (hb hby d1_25) rfl (feq hc22).2 (by decide) (by decide) ?_
      show Steps p.tables e below (T19.setTop (mkF m 31 #[.val (.int p1), .val (.ref b1), .val (.int (5 : Int32)), .val (.int (0 : Int32)), .val (.ref u0)] [])) _
      refine XS.iinc X19.here hx rfl (hb hby d1_31) rfl (l' := #[.val (.int p1), .val (.ref b1), .val (.int (5 : Int32)), .val (.int (1 : Int32)), .val (.ref u0)]) rfl ?_
      show Steps p.tables e below (T19.setTop (mkF m 34 #[.val (.int p1), .val (.ref b1), .val (.int (5 : Int32)), .val (.int (1 : Int32)), .val (.ref u0)] [])) _
      refine XS.goto X19.here hx rfl (pc0 := 34) (pc' := 9) rfl (hb hby d1_34) (by decide) (by decide) ?_
      show Steps p.tables e below (T19.setTop (mkF m 9 #[.val (.int p1), .val (.ref b1), .val (.int (5 : Int32)), .val (.int (1 : Int32)), .val (.ref u0)] [])) _
      refine XS.iloadN X19.here hx rfl (hb hby d1_9) rfl ?_
      show Steps p.tables e below (T19.setTop (mkF m 10 #[.val (.int p1), .val (.ref b1), .val (.int (5 : Int32)), .val (.int (1 : Int32)), .val (.ref u0)] [(.int (1 : Int32))])) _
      refine XS.iloadN X19.here hx rfl (hb hby d1_10) rfl ?_
      show Steps p.tables e below (T19.setTop (mkF m 11 #[.val (.int p1), .val (.ref b1), .val (.int (5 : Int32)), .val (.int (1 : Int32)), .val (.ref u0)] [(.int (5 : Int32)), (.int (1 : Int32))])) _
      refine XS.icmpNo X19.here hx rfl (hb hby d1_11) rfl (tlt (by decide)).2.1 ?_
      show Steps p.tables e below (T19.setTop (mkF m 14 #[.val (.int p1), .val (.ref b1), .val (.int (5 : Int32)), .val (.int (1 : Int32)), .val (.ref u0)] [])) _
      refine XS.aloadN X19.here hx rfl (hb hby d1_14) rfl rfl ?_
      show Steps p.tables e below (T19.setTop (mkF m 15 #[.val (.int p1), .val (.ref b1), .val (.int (5 : Int32)), .val (.int (1 : Int32)), .val (.ref u0)] [(.ref b1)])) _
      refine XS.iloadN X19.here hx rfl (hb hby d1_15) rfl ?_
      show Steps p.tables e below (T19.setTop (mkF m 16 #[.val (.int p1), .val (.ref b1), .val (.int (5 : Int32)), .val (.int (1 : Int32)), .val (.ref u0)] [(.int (1 : Int32)), (.ref b1)])) _
      exact k
    obtain ⟨cl24, Ar24, q24, S24, M24, Ha24, Ga24⟩ := id VB1
    have hin24 : ¬ ((1 : Int32) < 0 ∨ cl24.slots.size ≤ ((1 : Int32)).toNatClampNeg) := inb_of S24 ⟨by decide, by decide⟩
    have hat24 : cl24.slots[((1 : Int32)).toNatClampNeg]? = some (.ref u1) := Ha24.at hin24 rfl
    have K25 : ∀ t, Steps p.tables e below (T19.setTop (mkF m 17 #[.val (.int p1), .val (.ref b1), .val (.int (5 : Int32)), .val (.int (1 : Int32)), .val (.ref u0)] [(.ref u1)])) t → Steps p.tables e below G t := fun t k => K23 t (X19.aaload hx (j := (1 : Int32)) (v := (.ref u1)) (by rw [e19]; exact Ar24.1) (State.isArrayOf_alike hZ.alike Ar24.2.1) rfl Ar24.2.2 hin24 hat24 (g := (mkF m 16 #[.val (.int p1), .val (.ref b1), .val (.int (5 : Int32)), .val (.int (1 : Int32)), .val (.ref u0)] [(.int (1 : Int32)), (.ref b1)])) rfl rfl (hb hby d1_16) _ k)
    have K26 : ∀ t, Steps p.tables e below (T19.setTop (mkF m 21 #[.val (.int p1), .val (.ref b1), .val (.int (5 : Int32)), .val (.int (1 : Int32)), .val (.ref u1)] [(.ref u1)])) t → Steps p.tables e below G t := by
      intro t k
      refine K25 t ?_
      show Steps p.tables e below (T19.setTop (mkF m 17 #[.val (.int p1), .val (.ref b1), .val (.int (5 : Int32)), .val (.int (1 : Int32)), .val (.ref u0)] [(.ref u1)])) _
      refine XS.astore X19.here hx rfl (hb hby d1_17) rfl rfl (l' := #[.val (.int p1), .val (.ref b1), .val (.int (5 : Int32)), .val (.int (1 : Int32)), .val (.ref u1)]) rfl ?_
      show Steps p.tables e below (T19.setTop (mkF m 19 #[.val (.int p1), .val (.ref b1), .val (.int (5 : Int32)), .val (.int (1 : Int32)), .val (.ref u1)] [])) _
      refine XS.aload X19.here hx rfl (hb hby d1_19) rfl rfl ?_
      show Steps p.tables e below (T19.setTop (mkF m 21 #[.val (.int p1), .val (.ref b1), .val (.int (5 : Int32)), .val (.int (1 : Int32)), .val (.ref u1)] [(.ref u1)])) _
      exact k
    obtain ⟨T27, X27, e27, st27⟩ := getF X19 hx hZ hown (host := "") (Or.inl (hw _ (List.mem_of_getElem? (i := 24) rfl))) Via.refl e19 f5 (g := (mkF m 21 #[.val (.int p1), .val (.ref b1), .val (.int (5 : Int32)), .val (.int (1 : Int32)), .val (.ref u1)] [(.ref u1)])) rfl rfl (hb hby d1_21)
    have K28 : ∀ t, Steps p.tables e below (T27.setTop (mkF m 24 #[.val (.int p1), .val (.ref b1), .val (.int (5 : Int32)), .val (.int (1 : Int32)), .val (.ref u1)] [(.int (1 : Int32))])) t → Steps p.tables e below G t := fun t k => K26 t (st27 t k)
    have K29 : ∀ t, Steps p.tables e below (T27.setTop (mkF m 25 #[.val (.int p1), .val (.ref b1), .val (.int (5 : Int32)), .val (.int (1 : Int32)), .val (.ref u1)] [(.int p1), (.int (1 : Int32))])) t → Steps p.tables e below G t := by
      intro t k
      refine K28 t ?_
      show Steps p.tables e below (T27.setTop (mkF m 24 #[.val (.int p1), .val (.ref b1), .val (.int (5 : Int32)), .val (.int (1 : Int32)), .val (.ref u1)] [(.int (1 : Int32))])) _
      refine XS.iloadN X27.here hx rfl (hb hby d1_24) rfl ?_
      show Steps p.tables e below (T27.setTop (mkF m 25 #[.val (.int p1), .val (.ref b1), .val (.int (5 : Int32)), .val (.int (1 : Int32)), .val (.ref u1)] [(.int p1), (.int (1 : Int32))])) _
      exact k
    by_cases hc30 : (1 : Int32) = p1
    · obtain ⟨fs, hr, hrun, hended, hW, hsame⟩ := X27.leave (v := some (.ref u1)) (fun h => by rw [Bd.returns] at h; cases h)
      have KF := K29
      rw [hG] at KF
      refine ⟨_, _, KF _ ?_, hrun, hended, _, _, rfl, ?_, ⟨_, rfl⟩, hW, hsame.mono (by decide) (by decide)⟩
      · show Steps p.tables e below (T27.setTop (mkF m 25 #[.val (.int p1), .val (.ref b1), .val (.int (5 : Int32)), .val (.int (1 : Int32)), .val (.ref u1)] [(.int p1), (.int (1 : Int32))])) _
        refine XS.icmpNo X27.here hx rfl (hb hby d1_25) rfl (teq hc30).2 ?_
        show Steps p.tables e below (T27.setTop (mkF m 28 #[.val (.int p1), .val (.ref b1), .val (.int (5 : Int32)), .val (.int (1 : Int32)), .val (.ref u1)] [])) _
        refine XS.aload X27.here hx rfl (hb hby d1_28) rfl rfl ?_
        show Steps p.tables e below (T27.setTop (mkF m 30 #[.val (.int p1), .val (.ref b1), .val (.int (5 : Int32)), .val (.int (1 : Int32)), .val (.ref u1)] [(.ref u1)])) _
        exact own_retA X27 hx Bd.returns rfl rfl rfl (hb hby d1_30) hr
      · show Q1 p1 u0 u1 u2 u3 u4 h0 n0 _ T27.heap _
        rw [e27]
        exact ⟨by simp only [own_of, if_neg (Ne.symm hc22), if_pos (Eq.symm hc30)], N2, EX1⟩
    · have K31 : ∀ t, Steps p.tables e below (T27.setTop (mkF m 16 #[.val (.int p1), .val (.ref b1), .val (.int (5 : Int32)), .val (.int (2 : Int32)), .val (.ref u1)] [(.int (2 : Int32)), (.ref b1)])) t → Steps p.tables e below G t := by
        intro t k
        refine K29 t ?_
        show Steps p.tables e below (T27.setTop (mkF m 25 #[.val (.int p1), .val (.ref b1), .val (.int (5 : Int32)), .val (.int (1 : Int32)), .val (.ref u1)] [(.int p1), (.int (1 : Int32))])) _
        refine XS.icmpYes X27.here hx rfl (pc0 := 25) (pc' := 31) rfl (hb hby d1_25) rfl (feq hc30).2 (by decide) (by decide) ?_
        show Steps p.tables e below (T27.setTop (mkF m 31 #[.val (.int p1), .val (.ref b1), .val (.int (5 : Int32)), .val (.int (1 : Int32)), .val (.ref u1)] [])) _
        refine XS.iinc X27.here hx rfl (hb hby d1_31) rfl (l' := #[.val (.int p1), .val (.ref b1), .val (.int (5 : Int32)), .val (.int (2 : Int32)), .val (.ref u1)]) rfl ?_
        show Steps p.tables e below (T27.setTop (mkF m 34 #[.val (.int p1), .val (.ref b1), .val (.int (5 : Int32)), .val (.int (2 : Int32)), .val (.ref u1)] [])) _
        refine XS.goto X27.here hx rfl (pc0 := 34) (pc' := 9) rfl (hb hby d1_34) (by decide) (by decide) ?_
        show Steps p.tables e below (T27.setTop (mkF m 9 #[.val (.int p1), .val (.ref b1), .val (.int (5 : Int32)), .val (.int (2 : Int32)), .val (.ref u1)] [])) _
        refine XS.iloadN X27.here hx rfl (hb hby d1_9) rfl ?_
        show Steps p.tables e below (T27.setTop (mkF m 10 #[.val (.int p1), .val (.ref b1), .val (.int (5 : Int32)), .val (.int (2 : Int32)), .val (.ref u1)] [(.int (2 : Int32))])) _
        refine XS.iloadN X27.here hx rfl (hb hby d1_10) rfl ?_
        show Steps p.tables e below (T27.setTop (mkF m 11 #[.val (.int p1), .val (.ref b1), .val (.int (5 : Int32)), .val (.int (2 : Int32)), .val (.ref u1)] [(.int (5 : Int32)), (.int (2 : Int32))])) _
        refine XS.icmpNo X27.here hx rfl (hb hby d1_11) rfl (tlt (by decide)).2.1 ?_
        show Steps p.tables e below (T27.setTop (mkF m 14 #[.val (.int p1), .val (.ref b1), .val (.int (5 : Int32)), .val (.int (2 : Int32)), .val (.ref u1)] [])) _
        refine XS.aloadN X27.here hx rfl (hb hby d1_14) rfl rfl ?_
        show Steps p.tables e below (T27.setTop (mkF m 15 #[.val (.int p1), .val (.ref b1), .val (.int (5 : Int32)), .val (.int (2 : Int32)), .val (.ref u1)] [(.ref b1)])) _
        refine XS.iloadN X27.here hx rfl (hb hby d1_15) rfl ?_
        show Steps p.tables e below (T27.setTop (mkF m 16 #[.val (.int p1), .val (.ref b1), .val (.int (5 : Int32)), .val (.int (2 : Int32)), .val (.ref u1)] [(.int (2 : Int32)), (.ref b1)])) _
        exact k
      obtain ⟨cl32, Ar32, q32, S32, M32, Ha32, Ga32⟩ := id VB1
      have hin32 : ¬ ((2 : Int32) < 0 ∨ cl32.slots.size ≤ ((2 : Int32)).toNatClampNeg) := inb_of S32 ⟨by decide, by decide⟩
      have hat32 : cl32.slots[((2 : Int32)).toNatClampNeg]? = some (.ref u2) := Ha32.at hin32 rfl
      have K33 : ∀ t, Steps p.tables e below (T27.setTop (mkF m 17 #[.val (.int p1), .val (.ref b1), .val (.int (5 : Int32)), .val (.int (2 : Int32)), .val (.ref u1)] [(.ref u2)])) t → Steps p.tables e below G t := fun t k => K31 t (X27.aaload hx (j := (2 : Int32)) (v := (.ref u2)) (by rw [e27]; exact Ar32.1) (State.isArrayOf_alike hZ.alike Ar32.2.1) rfl Ar32.2.2 hin32 hat32 (g := (mkF m 16 #[.val (.int p1), .val (.ref b1), .val (.int (5 : Int32)), .val (.int (2 : Int32)), .val (.ref u1)] [(.int (2 : Int32)), (.ref b1)])) rfl rfl (hb hby d1_16) _ k)
      have K34 : ∀ t, Steps p.tables e below (T27.setTop (mkF m 21 #[.val (.int p1), .val (.ref b1), .val (.int (5 : Int32)), .val (.int (2 : Int32)), .val (.ref u2)] [(.ref u2)])) t → Steps p.tables e below G t := by
        intro t k
        refine K33 t ?_
        show Steps p.tables e below (T27.setTop (mkF m 17 #[.val (.int p1), .val (.ref b1), .val (.int (5 : Int32)), .val (.int (2 : Int32)), .val (.ref u1)] [(.ref u2)])) _
        refine XS.astore X27.here hx rfl (hb hby d1_17) rfl rfl (l' := #[.val (.int p1), .val (.ref b1), .val (.int (5 : Int32)), .val (.int (2 : Int32)), .val (.ref u2)]) rfl ?_
        show Steps p.tables e below (T27.setTop (mkF m 19 #[.val (.int p1), .val (.ref b1), .val (.int (5 : Int32)), .val (.int (2 : Int32)), .val (.ref u2)] [])) _
        refine XS.aload X27.here hx rfl (hb hby d1_19) rfl rfl ?_
        show Steps p.tables e below (T27.setTop (mkF m 21 #[.val (.int p1), .val (.ref b1), .val (.int (5 : Int32)), .val (.int (2 : Int32)), .val (.ref u2)] [(.ref u2)])) _
        exact k
      obtain ⟨T35, X35, e35, st35⟩ := getF X27 hx hZ hown (host := "") (Or.inl (hw _ (List.mem_of_getElem? (i := 24) rfl))) Via.refl e27 f6 (g := (mkF m 21 #[.val (.int p1), .val (.ref b1), .val (.int (5 : Int32)), .val (.int (2 : Int32)), .val (.ref u2)] [(.ref u2)])) rfl rfl (hb hby d1_21)
      have K36 : ∀ t, Steps p.tables e below (T35.setTop (mkF m 24 #[.val (.int p1), .val (.ref b1), .val (.int (5 : Int32)), .val (.int (2 : Int32)), .val (.ref u2)] [(.int (2 : Int32))])) t → Steps p.tables e below G t := fun t k => K34 t (st35 t k)
      have K37 : ∀ t, Steps p.tables e below (T35.setTop (mkF m 25 #[.val (.int p1), .val (.ref b1), .val (.int (5 : Int32)), .val (.int (2 : Int32)), .val (.ref u2)] [(.int p1), (.int (2 : Int32))])) t → Steps p.tables e below G t := by
        intro t k
        refine K36 t ?_
        show Steps p.tables e below (T35.setTop (mkF m 24 #[.val (.int p1), .val (.ref b1), .val (.int (5 : Int32)), .val (.int (2 : Int32)), .val (.ref u2)] [(.int (2 : Int32))])) _
        refine XS.iloadN X35.here hx rfl (hb hby d1_24) rfl ?_
        show Steps p.tables e below (T35.setTop (mkF m 25 #[.val (.int p1), .val (.ref b1), .val (.int (5 : Int32)), .val (.int (2 : Int32)), .val (.ref u2)] [(.int p1), (.int (2 : Int32))])) _
        exact k
      by_cases hc38 : (2 : Int32) = p1
      · obtain ⟨fs, hr, hrun, hended, hW, hsame⟩ := X35.leave (v := some (.ref u2)) (fun h => by rw [Bd.returns] at h; cases h)
        have KF := K37
        rw [hG] at KF
        refine ⟨_, _, KF _ ?_, hrun, hended, _, _, rfl, ?_, ⟨_, rfl⟩, hW, hsame.mono (by decide) (by decide)⟩
        · show Steps p.tables e below (T35.setTop (mkF m 25 #[.val (.int p1), .val (.ref b1), .val (.int (5 : Int32)), .val (.int (2 : Int32)), .val (.ref u2)] [(.int p1), (.int (2 : Int32))])) _
          refine XS.icmpNo X35.here hx rfl (hb hby d1_25) rfl (teq hc38).2 ?_
          show Steps p.tables e below (T35.setTop (mkF m 28 #[.val (.int p1), .val (.ref b1), .val (.int (5 : Int32)), .val (.int (2 : Int32)), .val (.ref u2)] [])) _
          refine XS.aload X35.here hx rfl (hb hby d1_28) rfl rfl ?_
          show Steps p.tables e below (T35.setTop (mkF m 30 #[.val (.int p1), .val (.ref b1), .val (.int (5 : Int32)), .val (.int (2 : Int32)), .val (.ref u2)] [(.ref u2)])) _
          exact own_retA X35 hx Bd.returns rfl rfl rfl (hb hby d1_30) hr
        · show Q1 p1 u0 u1 u2 u3 u4 h0 n0 _ T35.heap _
          rw [e35]
          exact ⟨by simp only [own_of, if_neg (Ne.symm hc22), if_neg (Ne.symm hc30), if_pos (Eq.symm hc38)], N2, EX1⟩
      · have K39 : ∀ t, Steps p.tables e below (T35.setTop (mkF m 16 #[.val (.int p1), .val (.ref b1), .val (.int (5 : Int32)), .val (.int (3 : Int32)), .val (.ref u2)] [(.int (3 : Int32)), (.ref b1)])) t → Steps p.tables e below G t := by
          intro t k
          refine K37 t ?_
          show Steps p.tables e below (T35.setTop (mkF m 25 #[.val (.int p1), .val (.ref b1), .val (.int (5 : Int32)), .val (.int (2 : Int32)), .val (.ref u2)] [(.int p1), (.int (2 : Int32))])) _
          refine XS.icmpYes X35.here hx rfl (pc0 := 25) (pc' := 31) rfl (hb hby d1_25) rfl (feq hc38).2 (by decide) (by decide) ?_
          show Steps p.tables e below (T35.setTop (mkF m 31 #[.val (.int p1), .val (.ref b1), .val (.int (5 : Int32)), .val (.int (2 : Int32)), .val (.ref u2)] [])) _
          refine XS.iinc X35.here hx rfl (hb hby d1_31) rfl (l' := #[.val (.int p1), .val (.ref b1), .val (.int (5 : Int32)), .val (.int (3 : Int32)), .val (.ref u2)]) rfl ?_
          show Steps p.tables e below (T35.setTop (mkF m 34 #[.val (.int p1), .val (.ref b1), .val (.int (5 : Int32)), .val (.int (3 : Int32)), .val (.ref u2)] [])) _
          refine XS.goto X35.here hx rfl (pc0 := 34) (pc' := 9) rfl (hb hby d1_34) (by decide) (by decide) ?_
          show Steps p.tables e below (T35.setTop (mkF m 9 #[.val (.int p1), .val (.ref b1), .val (.int (5 : Int32)), .val (.int (3 : Int32)), .val (.ref u2)] [])) _
          refine XS.iloadN X35.here hx rfl (hb hby d1_9) rfl ?_
          show Steps p.tables e below (T35.setTop (mkF m 10 #[.val (.int p1), .val (.ref b1), .val (.int (5 : Int32)), .val (.int (3 : Int32)), .val (.ref u2)] [(.int (3 : Int32))])) _
          refine XS.iloadN X35.here hx rfl (hb hby d1_10) rfl ?_
          show Steps p.tables e below (T35.setTop (mkF m 11 #[.val (.int p1), .val (.ref b1), .val (.int (5 : Int32)), .val (.int (3 : Int32)), .val (.ref u2)] [(.int (5 : Int32)), (.int (3 : Int32))])) _
          refine XS.icmpNo X35.here hx rfl (hb hby d1_11) rfl (tlt (by decide)).2.1 ?_
          show Steps p.tables e below (T35.setTop (mkF m 14 #[.val (.int p1), .val (.ref b1), .val (.int (5 : Int32)), .val (.int (3 : Int32)), .val (.ref u2)] [])) _
          refine XS.aloadN X35.here hx rfl (hb hby d1_14) rfl rfl ?_
          show Steps p.tables e below (T35.setTop (mkF m 15 #[.val (.int p1), .val (.ref b1), .val (.int (5 : Int32)), .val (.int (3 : Int32)), .val (.ref u2)] [(.ref b1)])) _
          refine XS.iloadN X35.here hx rfl (hb hby d1_15) rfl ?_
          show Steps p.tables e below (T35.setTop (mkF m 16 #[.val (.int p1), .val (.ref b1), .val (.int (5 : Int32)), .val (.int (3 : Int32)), .val (.ref u2)] [(.int (3 : Int32)), (.ref b1)])) _
          exact k
        obtain ⟨cl40, Ar40, q40, S40, M40, Ha40, Ga40⟩ := id VB1
        have hin40 : ¬ ((3 : Int32) < 0 ∨ cl40.slots.size ≤ ((3 : Int32)).toNatClampNeg) := inb_of S40 ⟨by decide, by decide⟩
        have hat40 : cl40.slots[((3 : Int32)).toNatClampNeg]? = some (.ref u3) := Ha40.at hin40 rfl
        have K41 : ∀ t, Steps p.tables e below (T35.setTop (mkF m 17 #[.val (.int p1), .val (.ref b1), .val (.int (5 : Int32)), .val (.int (3 : Int32)), .val (.ref u2)] [(.ref u3)])) t → Steps p.tables e below G t := fun t k => K39 t (X35.aaload hx (j := (3 : Int32)) (v := (.ref u3)) (by rw [e35]; exact Ar40.1) (State.isArrayOf_alike hZ.alike Ar40.2.1) rfl Ar40.2.2 hin40 hat40 (g := (mkF m 16 #[.val (.int p1), .val (.ref b1), .val (.int (5 : Int32)), .val (.int (3 : Int32)), .val (.ref u2)] [(.int (3 : Int32)), (.ref b1)])) rfl rfl (hb hby d1_16) _ k)
        have K42 : ∀ t, Steps p.tables e below (T35.setTop (mkF m 21 #[.val (.int p1), .val (.ref b1), .val (.int (5 : Int32)), .val (.int (3 : Int32)), .val (.ref u3)] [(.ref u3)])) t → Steps p.tables e below G t := by
          intro t k
          refine K41 t ?_
          show Steps p.tables e below (T35.setTop (mkF m 17 #[.val (.int p1), .val (.ref b1), .val (.int (5 : Int32)), .val (.int (3 : Int32)), .val (.ref u2)] [(.ref u3)])) _
          refine XS.astore X35.here hx rfl (hb hby d1_17) rfl rfl (l' := #[.val (.int p1), .val (.ref b1), .val (.int (5 : Int32)), .val (.int (3 : Int32)), .val (.ref u3)]) rfl ?_
          show Steps p.tables e below (T35.setTop (mkF m 19 #[.val (.int p1), .val (.ref b1), .val (.int (5 : Int32)), .val (.int (3 : Int32)), .val (.ref u3)] [])) _
          refine XS.aload X35.here hx rfl (hb hby d1_19) rfl rfl ?_
          show Steps p.tables e below (T35.setTop (mkF m 21 #[.val (.int p1), .val (.ref b1), .val (.int (5 : Int32)), .val (.int (3 : Int32)), .val (.ref u3)] [(.ref u3)])) _
          exact k
        obtain ⟨T43, X43, e43, st43⟩ := getF X35 hx hZ hown (host := "") (Or.inl (hw _ (List.mem_of_getElem? (i := 24) rfl))) Via.refl e35 f7 (g := (mkF m 21 #[.val (.int p1), .val (.ref b1), .val (.int (5 : Int32)), .val (.int (3 : Int32)), .val (.ref u3)] [(.ref u3)])) rfl rfl (hb hby d1_21)
        have K44 : ∀ t, Steps p.tables e below (T43.setTop (mkF m 24 #[.val (.int p1), .val (.ref b1), .val (.int (5 : Int32)), .val (.int (3 : Int32)), .val (.ref u3)] [(.int (3 : Int32))])) t → Steps p.tables e below G t := fun t k => K42 t (st43 t k)
        have K45 : ∀ t, Steps p.tables e below (T43.setTop (mkF m 25 #[.val (.int p1), .val (.ref b1), .val (.int (5 : Int32)), .val (.int (3 : Int32)), .val (.ref u3)] [(.int p1), (.int (3 : Int32))])) t → Steps p.tables e below G t := by
          intro t k
          refine K44 t ?_
          show Steps p.tables e below (T43.setTop (mkF m 24 #[.val (.int p1), .val (.ref b1), .val (.int (5 : Int32)), .val (.int (3 : Int32)), .val (.ref u3)] [(.int (3 : Int32))])) _
          refine XS.iloadN X43.here hx rfl (hb hby d1_24) rfl ?_
          show Steps p.tables e below (T43.setTop (mkF m 25 #[.val (.int p1), .val (.ref b1), .val (.int (5 : Int32)), .val (.int (3 : Int32)), .val (.ref u3)] [(.int p1), (.int (3 : Int32))])) _
          exact k
        by_cases hc46 : (3 : Int32) = p1
        · obtain ⟨fs, hr, hrun, hended, hW, hsame⟩ := X43.leave (v := some (.ref u3)) (fun h => by rw [Bd.returns] at h; cases h)
          have KF := K45
          rw [hG] at KF
          refine ⟨_, _, KF _ ?_, hrun, hended, _, _, rfl, ?_, ⟨_, rfl⟩, hW, hsame.mono (by decide) (by decide)⟩
          · show Steps p.tables e below (T43.setTop (mkF m 25 #[.val (.int p1), .val (.ref b1), .val (.int (5 : Int32)), .val (.int (3 : Int32)), .val (.ref u3)] [(.int p1), (.int (3 : Int32))])) _
            refine XS.icmpNo X43.here hx rfl (hb hby d1_25) rfl (teq hc46).2 ?_
            show Steps p.tables e below (T43.setTop (mkF m 28 #[.val (.int p1), .val (.ref b1), .val (.int (5 : Int32)), .val (.int (3 : Int32)), .val (.ref u3)] [])) _
            refine XS.aload X43.here hx rfl (hb hby d1_28) rfl rfl ?_
            show Steps p.tables e below (T43.setTop (mkF m 30 #[.val (.int p1), .val (.ref b1), .val (.int (5 : Int32)), .val (.int (3 : Int32)), .val (.ref u3)] [(.ref u3)])) _
            exact own_retA X43 hx Bd.returns rfl rfl rfl (hb hby d1_30) hr
          · show Q1 p1 u0 u1 u2 u3 u4 h0 n0 _ T43.heap _
            rw [e43]
            exact ⟨by simp only [own_of, if_neg (Ne.symm hc22), if_neg (Ne.symm hc30), if_neg (Ne.symm hc38), if_pos (Eq.symm hc46)], N2, EX1⟩
        · have K47 : ∀ t, Steps p.tables e below (T43.setTop (mkF m 16 #[.val (.int p1), .val (.ref b1), .val (.int (5 : Int32)), .val (.int (4 : Int32)), .val (.ref u3)] [(.int (4 : Int32)), (.ref b1)])) t → Steps p.tables e below G t := by
            intro t k
            refine K45 t ?_
            show Steps p.tables e below (T43.setTop (mkF m 25 #[.val (.int p1), .val (.ref b1), .val (.int (5 : Int32)), .val (.int (3 : Int32)), .val (.ref u3)] [(.int p1), (.int (3 : Int32))])) _
            refine XS.icmpYes X43.here hx rfl (pc0 := 25) (pc' := 31) rfl (hb hby d1_25) rfl (feq hc46).2 (by decide) (by decide) ?_
            show Steps p.tables e below (T43.setTop (mkF m 31 #[.val (.int p1), .val (.ref b1), .val (.int (5 : Int32)), .val (.int (3 : Int32)), .val (.ref u3)] [])) _
            refine XS.iinc X43.here hx rfl (hb hby d1_31) rfl (l' := #[.val (.int p1), .val (.ref b1), .val (.int (5 : Int32)), .val (.int (4 : Int32)), .val (.ref u3)]) rfl ?_
            show Steps p.tables e below (T43.setTop (mkF m 34 #[.val (.int p1), .val (.ref b1), .val (.int (5 : Int32)), .val (.int (4 : Int32)), .val (.ref u3)] [])) _
            refine XS.goto X43.here hx rfl (pc0 := 34) (pc' := 9) rfl (hb hby d1_34) (by decide) (by decide) ?_
            show Steps p.tables e below (T43.setTop (mkF m 9 #[.val (.int p1), .val (.ref b1), .val (.int (5 : Int32)), .val (.int (4 : Int32)), .val (.ref u3)] [])) _
            refine XS.iloadN X43.here hx rfl (hb hby d1_9) rfl ?_
            show Steps p.tables e below (T43.setTop (mkF m 10 #[.val (.int p1), .val (.ref b1), .val (.int (5 : Int32)), .val (.int (4 : Int32)), .val (.ref u3)] [(.int (4 : Int32))])) _
            refine XS.iloadN X43.here hx rfl (hb hby d1_10) rfl ?_
            show Steps p.tables e below (T43.setTop (mkF m 11 #[.val (.int p1), .val (.ref b1), .val (.int (5 : Int32)), .val (.int (4 : Int32)), .val (.ref u3)] [(.int (5 : Int32)), (.int (4 : Int32))])) _
            refine XS.icmpNo X43.here hx rfl (hb hby d1_11) rfl (tlt (by decide)).2.1 ?_
            show Steps p.tables e below (T43.setTop (mkF m 14 #[.val (.int p1), .val (.ref b1), .val (.int (5 : Int32)), .val (.int (4 : Int32)), .val (.ref u3)] [])) _
            refine XS.aloadN X43.here hx rfl (hb hby d1_14) rfl rfl ?_
            show Steps p.tables e below (T43.setTop (mkF m 15 #[.val (.int p1), .val (.ref b1), .val (.int (5 : Int32)), .val (.int (4 : Int32)), .val (.ref u3)] [(.ref b1)])) _
            refine XS.iloadN X43.here hx rfl (hb hby d1_15) rfl ?_
            show Steps p.tables e below (T43.setTop (mkF m 16 #[.val (.int p1), .val (.ref b1), .val (.int (5 : Int32)), .val (.int (4 : Int32)), .val (.ref u3)] [(.int (4 : Int32)), (.ref b1)])) _
            exact k
          obtain ⟨cl48, Ar48, q48, S48, M48, Ha48, Ga48⟩ := id VB1
          have hin48 : ¬ ((4 : Int32) < 0 ∨ cl48.slots.size ≤ ((4 : Int32)).toNatClampNeg) := inb_of S48 ⟨by decide, by decide⟩
          have hat48 : cl48.slots[((4 : Int32)).toNatClampNeg]? = some (.ref u4) := Ha48.at hin48 rfl
          have K49 : ∀ t, Steps p.tables e below (T43.setTop (mkF m 17 #[.val (.int p1), .val (.ref b1), .val (.int (5 : Int32)), .val (.int (4 : Int32)), .val (.ref u3)] [(.ref u4)])) t → Steps p.tables e below G t := fun t k => K47 t (X43.aaload hx (j := (4 : Int32)) (v := (.ref u4)) (by rw [e43]; exact Ar48.1) (State.isArrayOf_alike hZ.alike Ar48.2.1) rfl Ar48.2.2 hin48 hat48 (g := (mkF m 16 #[.val (.int p1), .val (.ref b1), .val (.int (5 : Int32)), .val (.int (4 : Int32)), .val (.ref u3)] [(.int (4 : Int32)), (.ref b1)])) rfl rfl (hb hby d1_16) _ k)
          have K50 : ∀ t, Steps p.tables e below (T43.setTop (mkF m 21 #[.val (.int p1), .val (.ref b1), .val (.int (5 : Int32)), .val (.int (4 : Int32)), .val (.ref u4)] [(.ref u4)])) t → Steps p.tables e below G t := by
            intro t k
            refine K49 t ?_
            show Steps p.tables e below (T43.setTop (mkF m 17 #[.val (.int p1), .val (.ref b1), .val (.int (5 : Int32)), .val (.int (4 : Int32)), .val (.ref u3)] [(.ref u4)])) _
            refine XS.astore X43.here hx rfl (hb hby d1_17) rfl rfl (l' := #[.val (.int p1), .val (.ref b1), .val (.int (5 : Int32)), .val (.int (4 : Int32)), .val (.ref u4)]) rfl ?_
            show Steps p.tables e below (T43.setTop (mkF m 19 #[.val (.int p1), .val (.ref b1), .val (.int (5 : Int32)), .val (.int (4 : Int32)), .val (.ref u4)] [])) _
            refine XS.aload X43.here hx rfl (hb hby d1_19) rfl rfl ?_
            show Steps p.tables e below (T43.setTop (mkF m 21 #[.val (.int p1), .val (.ref b1), .val (.int (5 : Int32)), .val (.int (4 : Int32)), .val (.ref u4)] [(.ref u4)])) _
            exact k
          obtain ⟨T51, X51, e51, st51⟩ := getF X43 hx hZ hown (host := "") (Or.inl (hw _ (List.mem_of_getElem? (i := 24) rfl))) Via.refl e43 f8 (g := (mkF m 21 #[.val (.int p1), .val (.ref b1), .val (.int (5 : Int32)), .val (.int (4 : Int32)), .val (.ref u4)] [(.ref u4)])) rfl rfl (hb hby d1_21)
          have K52 : ∀ t, Steps p.tables e below (T51.setTop (mkF m 24 #[.val (.int p1), .val (.ref b1), .val (.int (5 : Int32)), .val (.int (4 : Int32)), .val (.ref u4)] [(.int (4 : Int32))])) t → Steps p.tables e below G t := fun t k => K50 t (st51 t k)
          have K53 : ∀ t, Steps p.tables e below (T51.setTop (mkF m 25 #[.val (.int p1), .val (.ref b1), .val (.int (5 : Int32)), .val (.int (4 : Int32)), .val (.ref u4)] [(.int p1), (.int (4 : Int32))])) t → Steps p.tables e below G t := by
            intro t k
            refine K52 t ?_
            show Steps p.tables e below (T51.setTop (mkF m 24 #[.val (.int p1), .val (.ref b1), .val (.int (5 : Int32)), .val (.int (4 : Int32)), .val (.ref u4)] [(.int (4 : Int32))])) _
            refine XS.iloadN X51.here hx rfl (hb hby d1_24) rfl ?_
            show Steps p.tables e below (T51.setTop (mkF m 25 #[.val (.int p1), .val (.ref b1), .val (.int (5 : Int32)), .val (.int (4 : Int32)), .val (.ref u4)] [(.int p1), (.int (4 : Int32))])) _
            exact k
          by_cases hc54 : (4 : Int32) = p1
          · obtain ⟨fs, hr, hrun, hended, hW, hsame⟩ := X51.leave (v := some (.ref u4)) (fun h => by rw [Bd.returns] at h; cases h)
            have KF := K53
            rw [hG] at KF
            refine ⟨_, _, KF _ ?_, hrun, hended, _, _, rfl, ?_, ⟨_, rfl⟩, hW, hsame.mono (by decide) (by decide)⟩
            · show Steps p.tables e below (T51.setTop (mkF m 25 #[.val (.int p1), .val (.ref b1), .val (.int (5 : Int32)), .val (.int (4 : Int32)), .val (.ref u4)] [(.int p1), (.int (4 : Int32))])) _
              refine XS.icmpNo X51.here hx rfl (hb hby d1_25) rfl (teq hc54).2 ?_
              show Steps p.tables e below (T51.setTop (mkF m 28 #[.val (.int p1), .val (.ref b1), .val (.int (5 : Int32)), .val (.int (4 : Int32)), .val (.ref u4)] [])) _
              refine XS.aload X51.here hx rfl (hb hby d1_28) rfl rfl ?_
              show Steps p.tables e below (T51.setTop (mkF m 30 #[.val (.int p1), .val (.ref b1), .val (.int (5 : Int32)), .val (.int (4 : Int32)), .val (.ref u4)] [(.ref u4)])) _
              exact own_retA X51 hx Bd.returns rfl rfl rfl (hb hby d1_30) hr
            · show Q1 p1 u0 u1 u2 u3 u4 h0 n0 _ T51.heap _
              rw [e51]
              exact ⟨by simp only [own_of, if_neg (Ne.symm hc22), if_neg (Ne.symm hc30), if_neg (Ne.symm hc38), if_neg (Ne.symm hc46), if_pos (Eq.symm hc54)], N2, EX1⟩
          · obtain ⟨fs, hr, hrun, hended, hW, hsame⟩ := X51.leave (v := some .null) (fun h => by rw [Bd.returns] at h; cases h)
            have KF := K53
            rw [hG] at KF
            refine ⟨_, _, KF _ ?_, hrun, hended, _, _, rfl, ?_, ⟨_, rfl⟩, hW, hsame.mono (by decide) (by decide)⟩
            · show Steps p.tables e below (T51.setTop (mkF m 25 #[.val (.int p1), .val (.ref b1), .val (.int (5 : Int32)), .val (.int (4 : Int32)), .val (.ref u4)] [(.int p1), (.int (4 : Int32))])) _
              refine XS.icmpYes X51.here hx rfl (pc0 := 25) (pc' := 31) rfl (hb hby d1_25) rfl (feq hc54).2 (by decide) (by decide) ?_
              show Steps p.tables e below (T51.setTop (mkF m 31 #[.val (.int p1), .val (.ref b1), .val (.int (5 : Int32)), .val (.int (4 : Int32)), .val (.ref u4)] [])) _
              refine XS.iinc X51.here hx rfl (hb hby d1_31) rfl (l' := #[.val (.int p1), .val (.ref b1), .val (.int (5 : Int32)), .val (.int (5 : Int32)), .val (.ref u4)]) rfl ?_
              show Steps p.tables e below (T51.setTop (mkF m 34 #[.val (.int p1), .val (.ref b1), .val (.int (5 : Int32)), .val (.int (5 : Int32)), .val (.ref u4)] [])) _
              refine XS.goto X51.here hx rfl (pc0 := 34) (pc' := 9) rfl (hb hby d1_34) (by decide) (by decide) ?_
              show Steps p.tables e below (T51.setTop (mkF m 9 #[.val (.int p1), .val (.ref b1), .val (.int (5 : Int32)), .val (.int (5 : Int32)), .val (.ref u4)] [])) _
              refine XS.iloadN X51.here hx rfl (hb hby d1_9) rfl ?_
              show Steps p.tables e below (T51.setTop (mkF m 10 #[.val (.int p1), .val (.ref b1), .val (.int (5 : Int32)), .val (.int (5 : Int32)), .val (.ref u4)] [(.int (5 : Int32))])) _
              refine XS.iloadN X51.here hx rfl (hb hby d1_10) rfl ?_
              show Steps p.tables e below (T51.setTop (mkF m 11 #[.val (.int p1), .val (.ref b1), .val (.int (5 : Int32)), .val (.int (5 : Int32)), .val (.ref u4)] [(.int (5 : Int32)), (.int (5 : Int32))])) _
              refine XS.icmpYes X51.here hx rfl (pc0 := 11) (pc' := 37) rfl (hb hby d1_11) rfl (flt (by decide)).2.1 (by decide) (by decide) ?_
              show Steps p.tables e below (T51.setTop (mkF m 37 #[.val (.int p1), .val (.ref b1), .val (.int (5 : Int32)), .val (.int (5 : Int32)), .val (.ref u4)] [])) _
              refine XS.aconstNull X51.here hx rfl (hb hby d1_37) ?_
              show Steps p.tables e below (T51.setTop (mkF m 38 #[.val (.int p1), .val (.ref b1), .val (.int (5 : Int32)), .val (.int (5 : Int32)), .val (.ref u4)] [.null])) _
              exact own_retA X51 hx Bd.returns rfl rfl rfl (hb hby d1_38) hr
            · show Q1 p1 u0 u1 u2 u3 u4 h0 n0 _ T51.heap _
              rw [e51]
              exact ⟨by simp only [own_of, if_neg (Ne.symm hc22), if_neg (Ne.symm hc30), if_neg (Ne.symm hc38), if_neg (Ne.symm hc46), if_neg (Ne.symm hc54)], N2, EX1⟩
def Q3 (p1 : Int32) (u0 u1 u2 u3 u4 : Addr) (h0 : Heap) (n0 : Nat) (v : Option Value) (h : Heap) (L : List Loc) : Prop := v = some (own_of p1 u0 u1 u2 u3 u4) ∧ Fr n0 L ∧ h = h0
theorem d3_0 : decode method_2_code 0 = .ok (.iload_n 0, 1) := by decide +kernel
theorem d3_1 : decode method_2_code 1 = .ok (.ifCond .ne 7, 3) := by decide +kernel
theorem d3_4 : decode method_2_code 4 = .ok (.getstatic 7, 3) := by decide +kernel
theorem d3_7 : decode method_2_code 7 = .ok (.areturn, 1) := by decide +kernel
theorem d3_8 : decode method_2_code 8 = .ok (.iload_n 0, 1) := by decide +kernel
theorem d3_9 : decode method_2_code 9 = .ok (.iconst 1, 1) := by decide +kernel
theorem d3_10 : decode method_2_code 10 = .ok (.if_icmp .ne 7, 3) := by decide +kernel
theorem d3_13 : decode method_2_code 13 = .ok (.getstatic 13, 3) := by decide +kernel
theorem d3_16 : decode method_2_code 16 = .ok (.areturn, 1) := by decide +kernel
theorem d3_17 : decode method_2_code 17 = .ok (.iload_n 0, 1) := by decide +kernel
theorem d3_18 : decode method_2_code 18 = .ok (.iconst 2, 1) := by decide +kernel
theorem d3_19 : decode method_2_code 19 = .ok (.if_icmp .ne 7, 3) := by decide +kernel
theorem d3_22 : decode method_2_code 22 = .ok (.getstatic 16, 3) := by decide +kernel
theorem d3_25 : decode method_2_code 25 = .ok (.areturn, 1) := by decide +kernel
theorem d3_26 : decode method_2_code 26 = .ok (.iload_n 0, 1) := by decide +kernel
theorem d3_27 : decode method_2_code 27 = .ok (.iconst 3, 1) := by decide +kernel
theorem d3_28 : decode method_2_code 28 = .ok (.if_icmp .ne 7, 3) := by decide +kernel
theorem d3_31 : decode method_2_code 31 = .ok (.getstatic 19, 3) := by decide +kernel
theorem d3_34 : decode method_2_code 34 = .ok (.areturn, 1) := by decide +kernel
theorem d3_35 : decode method_2_code 35 = .ok (.iload_n 0, 1) := by decide +kernel
theorem d3_36 : decode method_2_code 36 = .ok (.iconst 4, 1) := by decide +kernel
theorem d3_37 : decode method_2_code 37 = .ok (.if_icmp .ne 7, 3) := by decide +kernel
theorem d3_40 : decode method_2_code 40 = .ok (.getstatic 22, 3) := by decide +kernel
theorem d3_43 : decode method_2_code 43 = .ok (.areturn, 1) := by decide +kernel
theorem d3_44 : decode method_2_code 44 = .ok (.aconst_null, 1) := by decide +kernel
theorem d3_45 : decode method_2_code 45 = .ok (.areturn, 1) := by decide +kernel
theorem pn_org_driftsieve_KindOfPinLaw : plainName "org/driftsieve/KindOfPinLaw" = true := by first | (simp [plainName, overriddenIn]; done) | decide +kernel
theorem ef_rm3 (m : MethodId) (x0 : Int32) : entryFrame m #[(.int x0)] 1 = mkF m 0 #[.val (.int x0)] [] := by first | (simp [entryFrame, mkF, argsToLocals, Value.category]; done) | rfl
set_option maxRecDepth 65536 in
set_option maxHeartbeats 40000000 in
theorem rm3 (l : Launch) (Z : State) (a0 : Array Value) (hw : ∀ d ∈ tables_1, d.before a0 Z = true) (ws : List Jvm.Cond) (p1 : Int32) (u0 u1 u2 u3 u4 : Addr) (h0 : Heap) (n0 : Nat) (Z0 : n0 ≤ h0.size) (S0 : Sta Z h0 "org/driftsieve/ItemRecord$Unselected$Kind" "NOT_SELECTED" "Lorg/driftsieve/ItemRecord$Unselected$Kind;" (.ref u0)) (S1 : Sta Z h0 "org/driftsieve/ItemRecord$Unselected$Kind" "DELETION" "Lorg/driftsieve/ItemRecord$Unselected$Kind;" (.ref u1)) (S2 : Sta Z h0 "org/driftsieve/ItemRecord$Unselected$Kind" "UNDECIDED" "Lorg/driftsieve/ItemRecord$Unselected$Kind;" (.ref u2)) (S3 : Sta Z h0 "org/driftsieve/ItemRecord$Unselected$Kind" "BOUND_DELETION" "Lorg/driftsieve/ItemRecord$Unselected$Kind;" (.ref u3)) (S4 : Sta Z h0 "org/driftsieve/ItemRecord$Unselected$Kind" "NOT_REACHED" "Lorg/driftsieve/ItemRecord$Unselected$Kind;" (.ref u4)) :
    MetFree l (⟨"org/driftsieve/KindOfPinLaw", "expected", "(I)Lorg/driftsieve/ItemRecord$Unselected$Kind;"⟩ : MethodName) (head1 (Jvm.Cond.code (⟨"org/driftsieve/KindOfPinLaw", "expected", "(I)Lorg/driftsieve/ItemRecord$Unselected$Kind;"⟩ : MethodName) method_2_code 1 (some (.object "org/driftsieve/ItemRecord$Unselected$Kind")) :: ws) ({ frames := 0, cells := 0, slots := 0, locals := 0 } : Room)) (fun a U => a = #[(.int p1)] ∧ Z.Warmed39 U.vm ∧ U.heap = h0) (fun _ _ _ _ _ => True) (fun _ U o U' => ∃ v L, o = .returned v ∧ Q3 p1 u0 u1 u2 u3 u4 h0 n0 v U'.heap L ∧ FrameEnd U o U' L ({ frames := 0, cells := 0, slots := 0, locals := 0 } : Room).cells ({ frames := 0, cells := 0, slots := 0, locals := 0 } : Room).slots) := by
  refine MetFree.of_bodySF (plainFor_of_name pn_org_driftsieve_KindOfPinLaw) hisR ?_
  intro p e s m args below meth c s₁ Bd hml0 hP hK
  obtain ⟨rfl, hZ, hh⟩ := hP
  have hx := Bd.exec
  have hby := Bd.bytes
  have hml : c.maxLocals = 1 := hml0
  have hown : s.vm.findClass "org/driftsieve/KindOfPinLaw" = some m.cls := findClass_of_methodNamed Bd.named
  have hnm := (name_of_methodNamed Bd.named Bd.method).1
  have X0 : Stand p l e ({ frames := 0, cells := 0, slots := 0, locals := 0 } : Room) s m #[(.int p1)] below meth c s₁ [] 0 0 := Stand.of_body Bd
  have e0 : s₁.heap = h0 := by rw [← hh, Bd.state]; rfl
  have N0 := Fr.nil n0
  have KP0 : Keep h0 h0 [] := Keep.refl h0 _
  obtain ⟨G, hG⟩ : ∃ G : State, G = s₁.setTop (entryFrame m #[(.int p1)] 1) := ⟨_, rfl⟩
  have pre0 : ∀ t, Steps p.tables e below (s₁.setTop (mkF m 0 #[.val (.int p1)] [])) t → Steps p.tables e below G t := fun t k => hG ▸ castTop (ef_rm3 m p1) k
  have K1 : ∀ t, Steps p.tables e below (s₁.setTop (mkF m 1 #[.val (.int p1)] [(.int p1)])) t → Steps p.tables e below G t := by
    intro t k
    refine pre0 t ?_
    show Steps p.tables e below (s₁.setTop (mkF m 0 #[.val (.int p1)] [])) _
    refine XS.iloadN X0.here hx rfl (hb hby d3_0) rfl ?_
    show Steps p.tables e below (s₁.setTop (mkF m 1 #[.val (.int p1)] [(.int p1)])) _
    exact k
  by_cases hc2 : p1 = (0 : Int32)
  · have K3 : ∀ t, Steps p.tables e below (s₁.setTop (mkF m 4 #[.val (.int p1)] [])) t → Steps p.tables e below G t := by
      intro t k
      refine K1 t ?_
      show Steps p.tables e below (s₁.setTop (mkF m 1 #[.val (.int p1)] [(.int p1)])) _
      refine XS.ifNo X0.here hx rfl (hb hby d3_1) rfl ((if0 _ _).trans (teq hc2).2) ?_
      show Steps p.tables e below (s₁.setTop (mkF m 4 #[.val (.int p1)] [])) _
      exact k
    obtain ⟨T4, X4, e4, st4⟩ := getS2 X0 hx hZ hown (host := "") (Or.inl (hw _ (List.mem_of_getElem? (i := 30) rfl))) Via.refl e0 S0 (g := (mkF m 4 #[.val (.int p1)] [])) rfl (hb hby d3_4)
    have K5 : ∀ t, Steps p.tables e below (T4.setTop (mkF m 7 #[.val (.int p1)] [(.ref u0)])) t → Steps p.tables e below G t := fun t k => K3 t (st4 t k)
    obtain ⟨fs, hr, hrun, hended, hW, hsame⟩ := X4.leave (v := some (.ref u0)) (fun h => by rw [Bd.returns] at h; cases h)
    have KF := K5
    rw [hG] at KF
    refine ⟨_, _, KF _ ?_, hrun, hended, _, _, rfl, ?_, ⟨_, rfl⟩, hW, hsame.mono (by decide) (by decide)⟩
    · show Steps p.tables e below (T4.setTop (mkF m 7 #[.val (.int p1)] [(.ref u0)])) _
      exact own_retA X4 hx Bd.returns rfl rfl rfl (hb hby d3_7) hr
    · show Q3 p1 u0 u1 u2 u3 u4 h0 n0 _ T4.heap _
      rw [e4]
      exact ⟨by simp only [own_of, if_pos hc2], N0, rfl⟩
  · have K6 : ∀ t, Steps p.tables e below (s₁.setTop (mkF m 10 #[.val (.int p1)] [(.int (1 : Int32)), (.int p1)])) t → Steps p.tables e below G t := by
      intro t k
      refine K1 t ?_
      show Steps p.tables e below (s₁.setTop (mkF m 1 #[.val (.int p1)] [(.int p1)])) _
      refine XS.ifYes X0.here hx rfl (pc0 := 1) (pc' := 8) rfl (hb hby d3_1) rfl ((if0 _ _).trans (feq hc2).2) (by decide) (by decide) ?_
      show Steps p.tables e below (s₁.setTop (mkF m 8 #[.val (.int p1)] [])) _
      refine XS.iloadN X0.here hx rfl (hb hby d3_8) rfl ?_
      show Steps p.tables e below (s₁.setTop (mkF m 9 #[.val (.int p1)] [(.int p1)])) _
      refine XS.iconst X0.here hx rfl (hb hby d3_9) ?_
      show Steps p.tables e below (s₁.setTop (mkF m 10 #[.val (.int p1)] [(.int (1 : Int32)), (.int p1)])) _
      exact k
    by_cases hc7 : p1 = (1 : Int32)
    · have K8 : ∀ t, Steps p.tables e below (s₁.setTop (mkF m 13 #[.val (.int p1)] [])) t → Steps p.tables e below G t := by
        intro t k
        refine K6 t ?_
        show Steps p.tables e below (s₁.setTop (mkF m 10 #[.val (.int p1)] [(.int (1 : Int32)), (.int p1)])) _
        refine XS.icmpNo X0.here hx rfl (hb hby d3_10) rfl (teq hc7).2 ?_
        show Steps p.tables e below (s₁.setTop (mkF m 13 #[.val (.int p1)] [])) _
        exact k
      obtain ⟨T9, X9, e9, st9⟩ := getS2 X0 hx hZ hown (host := "") (Or.inl (hw _ (List.mem_of_getElem? (i := 39) rfl))) Via.refl e0 S1 (g := (mkF m 13 #[.val (.int p1)] [])) rfl (hb hby d3_13)
      have K10 : ∀ t, Steps p.tables e below (T9.setTop (mkF m 16 #[.val (.int p1)] [(.ref u1)])) t → Steps p.tables e below G t := fun t k => K8 t (st9 t k)
      obtain ⟨fs, hr, hrun, hended, hW, hsame⟩ := X9.leave (v := some (.ref u1)) (fun h => by rw [Bd.returns] at h; cases h)
      have KF := K10
      rw [hG] at KF
      refine ⟨_, _, KF _ ?_, hrun, hended, _, _, rfl, ?_, ⟨_, rfl⟩, hW, hsame.mono (by decide) (by decide)⟩
      · show Steps p.tables e below (T9.setTop (mkF m 16 #[.val (.int p1)] [(.ref u1)])) _
        exact own_retA X9 hx Bd.returns rfl rfl rfl (hb hby d3_16) hr
      · show Q3 p1 u0 u1 u2 u3 u4 h0 n0 _ T9.heap _
        rw [e9]
        exact ⟨by simp only [own_of, if_neg hc2, if_pos hc7], N0, rfl⟩
    · have K11 : ∀ t, Steps p.tables e below (s₁.setTop (mkF m 19 #[.val (.int p1)] [(.int (2 : Int32)), (.int p1)])) t → Steps p.tables e below G t := by
        intro t k
        refine K6 t ?_
        show Steps p.tables e below (s₁.setTop (mkF m 10 #[.val (.int p1)] [(.int (1 : Int32)), (.int p1)])) _
        refine XS.icmpYes X0.here hx rfl (pc0 := 10) (pc' := 17) rfl (hb hby d3_10) rfl (feq hc7).2 (by decide) (by decide) ?_
        show Steps p.tables e below (s₁.setTop (mkF m 17 #[.val (.int p1)] [])) _
        refine XS.iloadN X0.here hx rfl (hb hby d3_17) rfl ?_
        show Steps p.tables e below (s₁.setTop (mkF m 18 #[.val (.int p1)] [(.int p1)])) _
        refine XS.iconst X0.here hx rfl (hb hby d3_18) ?_
        show Steps p.tables e below (s₁.setTop (mkF m 19 #[.val (.int p1)] [(.int (2 : Int32)), (.int p1)])) _
        exact k
      by_cases hc12 : p1 = (2 : Int32)
      · have K13 : ∀ t, Steps p.tables e below (s₁.setTop (mkF m 22 #[.val (.int p1)] [])) t → Steps p.tables e below G t := by
          intro t k
          refine K11 t ?_
          show Steps p.tables e below (s₁.setTop (mkF m 19 #[.val (.int p1)] [(.int (2 : Int32)), (.int p1)])) _
          refine XS.icmpNo X0.here hx rfl (hb hby d3_19) rfl (teq hc12).2 ?_
          show Steps p.tables e below (s₁.setTop (mkF m 22 #[.val (.int p1)] [])) _
          exact k
        obtain ⟨T14, X14, e14, st14⟩ := getS2 X0 hx hZ hown (host := "") (Or.inl (hw _ (List.mem_of_getElem? (i := 31) rfl))) Via.refl e0 S2 (g := (mkF m 22 #[.val (.int p1)] [])) rfl (hb hby d3_22)
        have K15 : ∀ t, Steps p.tables e below (T14.setTop (mkF m 25 #[.val (.int p1)] [(.ref u2)])) t → Steps p.tables e below G t := fun t k => K13 t (st14 t k)
        obtain ⟨fs, hr, hrun, hended, hW, hsame⟩ := X14.leave (v := some (.ref u2)) (fun h => by rw [Bd.returns] at h; cases h)
        have KF := K15
        rw [hG] at KF
        refine ⟨_, _, KF _ ?_, hrun, hended, _, _, rfl, ?_, ⟨_, rfl⟩, hW, hsame.mono (by decide) (by decide)⟩
        · show Steps p.tables e below (T14.setTop (mkF m 25 #[.val (.int p1)] [(.ref u2)])) _
          exact own_retA X14 hx Bd.returns rfl rfl rfl (hb hby d3_25) hr
        · show Q3 p1 u0 u1 u2 u3 u4 h0 n0 _ T14.heap _
          rw [e14]
          exact ⟨by simp only [own_of, if_neg hc2, if_neg hc7, if_pos hc12], N0, rfl⟩
      · have K16 : ∀ t, Steps p.tables e below (s₁.setTop (mkF m 28 #[.val (.int p1)] [(.int (3 : Int32)), (.int p1)])) t → Steps p.tables e below G t := by
          intro t k
          refine K11 t ?_
          show Steps p.tables e below (s₁.setTop (mkF m 19 #[.val (.int p1)] [(.int (2 : Int32)), (.int p1)])) _
          refine XS.icmpYes X0.here hx rfl (pc0 := 19) (pc' := 26) rfl (hb hby d3_19) rfl (feq hc12).2 (by decide) (by decide) ?_
          show Steps p.tables e below (s₁.setTop (mkF m 26 #[.val (.int p1)] [])) _
          refine XS.iloadN X0.here hx rfl (hb hby d3_26) rfl ?_
          show Steps p.tables e below (s₁.setTop (mkF m 27 #[.val (.int p1)] [(.int p1)])) _
          refine XS.iconst X0.here hx rfl (hb hby d3_27) ?_
          show Steps p.tables e below (s₁.setTop (mkF m 28 #[.val (.int p1)] [(.int (3 : Int32)), (.int p1)])) _
          exact k
        by_cases hc17 : p1 = (3 : Int32)
        · have K18 : ∀ t, Steps p.tables e below (s₁.setTop (mkF m 31 #[.val (.int p1)] [])) t → Steps p.tables e below G t := by
            intro t k
            refine K16 t ?_
            show Steps p.tables e below (s₁.setTop (mkF m 28 #[.val (.int p1)] [(.int (3 : Int32)), (.int p1)])) _
            refine XS.icmpNo X0.here hx rfl (hb hby d3_28) rfl (teq hc17).2 ?_
            show Steps p.tables e below (s₁.setTop (mkF m 31 #[.val (.int p1)] [])) _
            exact k
          obtain ⟨T19, X19, e19, st19⟩ := getS2 X0 hx hZ hown (host := "") (Or.inl (hw _ (List.mem_of_getElem? (i := 37) rfl))) Via.refl e0 S3 (g := (mkF m 31 #[.val (.int p1)] [])) rfl (hb hby d3_31)
          have K20 : ∀ t, Steps p.tables e below (T19.setTop (mkF m 34 #[.val (.int p1)] [(.ref u3)])) t → Steps p.tables e below G t := fun t k => K18 t (st19 t k)
          obtain ⟨fs, hr, hrun, hended, hW, hsame⟩ := X19.leave (v := some (.ref u3)) (fun h => by rw [Bd.returns] at h; cases h)
          have KF := K20
          rw [hG] at KF
          refine ⟨_, _, KF _ ?_, hrun, hended, _, _, rfl, ?_, ⟨_, rfl⟩, hW, hsame.mono (by decide) (by decide)⟩
          · show Steps p.tables e below (T19.setTop (mkF m 34 #[.val (.int p1)] [(.ref u3)])) _
            exact own_retA X19 hx Bd.returns rfl rfl rfl (hb hby d3_34) hr
          · show Q3 p1 u0 u1 u2 u3 u4 h0 n0 _ T19.heap _
            rw [e19]
            exact ⟨by simp only [own_of, if_neg hc2, if_neg hc7, if_neg hc12, if_pos hc17], N0, rfl⟩
        · have K21 : ∀ t, Steps p.tables e below (s₁.setTop (mkF m 37 #[.val (.int p1)] [(.int (4 : Int32)), (.int p1)])) t → Steps p.tables e below G t := by
            intro t k
            refine K16 t ?_
            show Steps p.tables e below (s₁.setTop (mkF m 28 #[.val (.int p1)] [(.int (3 : Int32)), (.int p1)])) _
            refine XS.icmpYes X0.here hx rfl (pc0 := 28) (pc' := 35) rfl (hb hby d3_28) rfl (feq hc17).2 (by decide) (by decide) ?_
            show Steps p.tables e below (s₁.setTop (mkF m 35 #[.val (.int p1)] [])) _
            refine XS.iloadN X0.here hx rfl (hb hby d3_35) rfl ?_
            show Steps p.tables e below (s₁.setTop (mkF m 36 #[.val (.int p1)] [(.int p1)])) _
            refine XS.iconst X0.here hx rfl (hb hby d3_36) ?_
            show Steps p.tables e below (s₁.setTop (mkF m 37 #[.val (.int p1)] [(.int (4 : Int32)), (.int p1)])) _
            exact k
          by_cases hc22 : p1 = (4 : Int32)
          · have K23 : ∀ t, Steps p.tables e below (s₁.setTop (mkF m 40 #[.val (.int p1)] [])) t → Steps p.tables e below G t := by
              intro t k
              refine K21 t ?_
              show Steps p.tables e below (s₁.setTop (mkF m 37 #[.val (.int p1)] [(.int (4 : Int32)), (.int p1)])) _
              refine XS.icmpNo X0.here hx rfl (hb hby d3_37) rfl (teq hc22).2 ?_
              show Steps p.tables e below (s₁.setTop (mkF m 40 #[.val (.int p1)] [])) _
              exact k
            obtain ⟨T24, X24, e24, st24⟩ := getS2 X0 hx hZ hown (host := "") (Or.inl (hw _ (List.mem_of_getElem? (i := 38) rfl))) Via.refl e0 S4 (g := (mkF m 40 #[.val (.int p1)] [])) rfl (hb hby d3_40)
            have K25 : ∀ t, Steps p.tables e below (T24.setTop (mkF m 43 #[.val (.int p1)] [(.ref u4)])) t → Steps p.tables e below G t := fun t k => K23 t (st24 t k)
            obtain ⟨fs, hr, hrun, hended, hW, hsame⟩ := X24.leave (v := some (.ref u4)) (fun h => by rw [Bd.returns] at h; cases h)
            have KF := K25
            rw [hG] at KF
            refine ⟨_, _, KF _ ?_, hrun, hended, _, _, rfl, ?_, ⟨_, rfl⟩, hW, hsame.mono (by decide) (by decide)⟩
            · show Steps p.tables e below (T24.setTop (mkF m 43 #[.val (.int p1)] [(.ref u4)])) _
              exact own_retA X24 hx Bd.returns rfl rfl rfl (hb hby d3_43) hr
            · show Q3 p1 u0 u1 u2 u3 u4 h0 n0 _ T24.heap _
              rw [e24]
              exact ⟨by simp only [own_of, if_neg hc2, if_neg hc7, if_neg hc12, if_neg hc17, if_pos hc22], N0, rfl⟩
          · obtain ⟨fs, hr, hrun, hended, hW, hsame⟩ := X0.leave (v := some .null) (fun h => by rw [Bd.returns] at h; cases h)
            have KF := K21
            rw [hG] at KF
            refine ⟨_, _, KF _ ?_, hrun, hended, _, _, rfl, ?_, ⟨_, rfl⟩, hW, hsame.mono (by decide) (by decide)⟩
            · show Steps p.tables e below (s₁.setTop (mkF m 37 #[.val (.int p1)] [(.int (4 : Int32)), (.int p1)])) _
              refine XS.icmpYes X0.here hx rfl (pc0 := 37) (pc' := 44) rfl (hb hby d3_37) rfl (feq hc22).2 (by decide) (by decide) ?_
              show Steps p.tables e below (s₁.setTop (mkF m 44 #[.val (.int p1)] [])) _
              refine XS.aconstNull X0.here hx rfl (hb hby d3_44) ?_
              show Steps p.tables e below (s₁.setTop (mkF m 45 #[.val (.int p1)] [.null])) _
              exact own_retA X0 hx Bd.returns rfl rfl rfl (hb hby d3_45) hr
            · show Q3 p1 u0 u1 u2 u3 u4 h0 n0 _ s₁.heap _
              rw [e0]
              exact ⟨by simp only [own_of, if_neg hc2, if_neg hc7, if_neg hc12, if_neg hc17, if_neg hc22], N0, rfl⟩
def Q4 (a1 : Addr) (p1 : Int32) (h0 : Heap) (n0 : Nat) (v : Option Value) (h : Heap) (L : List Loc) : Prop := v = some (.int p1) ∧ Fr n0 L ∧ h = h0
theorem d4_0 : decode prog_13_method_5_code 0 = .ok (.aload_n 0, 1) := by decide +kernel
theorem d4_1 : decode prog_13_method_5_code 1 = .ok (.getfield 38, 3) := by decide +kernel
theorem d4_4 : decode prog_13_method_5_code 4 = .ok (.ireturn, 1) := by decide +kernel
theorem ef_rm4 (m : MethodId) (x0 : Addr) : entryFrame m #[(.ref x0)] 1 = mkF m 0 #[.val (.ref x0)] [] := by first | (simp [entryFrame, mkF, argsToLocals, Value.category]; done) | rfl
set_option maxRecDepth 65536 in
set_option maxHeartbeats 40000000 in
theorem rm4 (l : Launch) (Z : State) (a0 : Array Value) (hw : ∀ d ∈ tables_1, d.before a0 Z = true) (ws : List Jvm.Cond) (a1 : Addr) (p1 : Int32) (h0 : Heap) (n0 : Nat) (Z0 : n0 ≤ h0.size) (F1 : Fld Z h0 a1 "org/driftsieve/ItemRecord$Unselected$Kind" "code" "I" (.int p1)) :
    MetFree l (⟨"org/driftsieve/ItemRecord$Unselected$Kind", "code", "()I"⟩ : MethodName) (head1 (Jvm.Cond.code (⟨"org/driftsieve/ItemRecord$Unselected$Kind", "code", "()I"⟩ : MethodName) prog_13_method_5_code 1 (some .int) :: ws) ({ frames := 0, cells := 0, slots := 0, locals := 0 } : Room)) (fun a U => a = #[(.ref a1)] ∧ Z.Warmed39 U.vm ∧ U.heap = h0) (fun _ _ _ _ _ => True) (fun _ U o U' => ∃ v L, o = .returned v ∧ Q4 a1 p1 h0 n0 v U'.heap L ∧ FrameEnd U o U' L ({ frames := 0, cells := 0, slots := 0, locals := 0 } : Room).cells ({ frames := 0, cells := 0, slots := 0, locals := 0 } : Room).slots) := by
  refine MetFree.of_bodySF (plainFor_of_name pn_org_driftsieve_ItemRecord_Unselected_Kind) hisR ?_
  intro p e s m args below meth c s₁ Bd hml0 hP hK
  obtain ⟨rfl, hZ, hh⟩ := hP
  have hx := Bd.exec
  have hby := Bd.bytes
  have hml : c.maxLocals = 1 := hml0
  have hown : s.vm.findClass "org/driftsieve/ItemRecord$Unselected$Kind" = some m.cls := findClass_of_methodNamed Bd.named
  have hnm := (name_of_methodNamed Bd.named Bd.method).1
  have X0 : Stand p l e ({ frames := 0, cells := 0, slots := 0, locals := 0 } : Room) s m #[(.ref a1)] below meth c s₁ [] 0 0 := Stand.of_body Bd
  have e0 : s₁.heap = h0 := by rw [← hh, Bd.state]; rfl
  have N0 := Fr.nil n0
  have KP0 : Keep h0 h0 [] := Keep.refl h0 _
  obtain ⟨G, hG⟩ : ∃ G : State, G = s₁.setTop (entryFrame m #[(.ref a1)] 1) := ⟨_, rfl⟩
  have pre0 : ∀ t, Steps p.tables e below (s₁.setTop (mkF m 0 #[.val (.ref a1)] [])) t → Steps p.tables e below G t := fun t k => hG ▸ castTop (ef_rm4 m a1) k
  have K1 : ∀ t, Steps p.tables e below (s₁.setTop (mkF m 1 #[.val (.ref a1)] [(.ref a1)])) t → Steps p.tables e below G t := by
    intro t k
    refine pre0 t ?_
    show Steps p.tables e below (s₁.setTop (mkF m 0 #[.val (.ref a1)] [])) _
    refine XS.aloadN X0.here hx rfl (hb hby d4_0) rfl rfl ?_
    show Steps p.tables e below (s₁.setTop (mkF m 1 #[.val (.ref a1)] [(.ref a1)])) _
    exact k
  obtain ⟨T2, X2, e2, st2⟩ := getF X0 hx hZ hown (host := "") (Or.inl (hw _ (List.mem_of_getElem? (i := 24) rfl))) Via.refl e0 F1 (g := (mkF m 1 #[.val (.ref a1)] [(.ref a1)])) rfl rfl (hb hby d4_1)
  have K3 : ∀ t, Steps p.tables e below (T2.setTop (mkF m 4 #[.val (.ref a1)] [(.int p1)])) t → Steps p.tables e below G t := fun t k => K1 t (st2 t k)
  obtain ⟨fs, hr, hrun, hended, hW, hsame⟩ := X2.leave (v := some (.int p1)) (fun h => by rw [Bd.returns] at h; cases h)
  have KF := K3
  rw [hG] at KF
  refine ⟨_, _, KF _ ?_, hrun, hended, _, _, rfl, ?_, ⟨_, rfl⟩, hW, hsame.mono (by decide) (by decide)⟩
  · show Steps p.tables e below (T2.setTop (mkF m 4 #[.val (.ref a1)] [(.int p1)])) _
    exact own_retI X2 hx Bd.returns (hb hby d4_4) hr
  · show Q4 a1 p1 h0 n0 _ T2.heap _
    rw [e2]
    exact ⟨rfl, N0, rfl⟩
def Q0 (n0 : Nat) (v : Option Value) (h : Heap) (L : List Loc) : Prop := v = some (.int 1) ∧ Fr n0 L
theorem pd_1 : parseMethodDescriptor "(I)Lorg/driftsieve/ItemRecord$Unselected$Kind;" = some ⟨[.int], some (.object "org/driftsieve/ItemRecord$Unselected$Kind")⟩ := by decide +kernel
theorem pd_2 : parseMethodDescriptor "()I" = some ⟨[], some .int⟩ := by decide +kernel
theorem ef_rm0 (m : MethodId) (x0 : Int32) (x1 : Int32) : entryFrame m #[(.int x0), (.int x1)] maxLocals = mkF m 0 #[.val (.int x0), .val (.int x1), .unset, .unset, .unset, .unset] [] := by first | (simp [entryFrame, mkF, argsToLocals, Value.category, maxLocals]; done) | rfl
set_option maxRecDepth 65536 in
set_option maxHeartbeats 40000000 in
theorem rm0 (l : Launch) (Z : State) (a0 : Array Value) (hw : ∀ d ∈ tables_1, d.before a0 Z = true) (ws : List Jvm.Cond) (p1 p2 : Int32) (k : ClassId) (uv u0 u1 u2 u3 u4 : Addr) (h0 : Heap) (n0 : Nat) (Z0 : n0 ≤ h0.size) (SV : Sta Z h0 "org/driftsieve/ItemRecord$Unselected$Kind" "$VALUES" "[Lorg/driftsieve/ItemRecord$Unselected$Kind;" (.ref uv)) (EV : Exa Z h0 uv "[Lorg/driftsieve/ItemRecord$Unselected$Kind;") (VV : Arv Z h0 uv k (.object "org/driftsieve/ItemRecord$Unselected$Kind") (5 : Int32) [(.ref u0), (.ref u1), (.ref u2), (.ref u3), (.ref u4)] .null) (S0 : Sta Z h0 "org/driftsieve/ItemRecord$Unselected$Kind" "NOT_SELECTED" "Lorg/driftsieve/ItemRecord$Unselected$Kind;" (.ref u0)) (S1 : Sta Z h0 "org/driftsieve/ItemRecord$Unselected$Kind" "DELETION" "Lorg/driftsieve/ItemRecord$Unselected$Kind;" (.ref u1)) (S2 : Sta Z h0 "org/driftsieve/ItemRecord$Unselected$Kind" "UNDECIDED" "Lorg/driftsieve/ItemRecord$Unselected$Kind;" (.ref u2)) (S3 : Sta Z h0 "org/driftsieve/ItemRecord$Unselected$Kind" "BOUND_DELETION" "Lorg/driftsieve/ItemRecord$Unselected$Kind;" (.ref u3)) (S4 : Sta Z h0 "org/driftsieve/ItemRecord$Unselected$Kind" "NOT_REACHED" "Lorg/driftsieve/ItemRecord$Unselected$Kind;" (.ref u4)) (F0 : Fld Z h0 u0 "org/driftsieve/ItemRecord$Unselected$Kind" "code" "I" (.int (0 : Int32))) (F1 : Fld Z h0 u1 "org/driftsieve/ItemRecord$Unselected$Kind" "code" "I" (.int (1 : Int32))) (F2 : Fld Z h0 u2 "org/driftsieve/ItemRecord$Unselected$Kind" "code" "I" (.int (2 : Int32))) (F3 : Fld Z h0 u3 "org/driftsieve/ItemRecord$Unselected$Kind" "code" "I" (.int (3 : Int32))) (F4 : Fld Z h0 u4 "org/driftsieve/ItemRecord$Unselected$Kind" "code" "I" (.int (4 : Int32))) (E0 : Exa Z h0 u0 "org/driftsieve/ItemRecord$Unselected$Kind") (E1 : Exa Z h0 u1 "org/driftsieve/ItemRecord$Unselected$Kind") (E2 : Exa Z h0 u2 "org/driftsieve/ItemRecord$Unselected$Kind") (E3 : Exa Z h0 u3 "org/driftsieve/ItemRecord$Unselected$Kind") (E4 : Exa Z h0 u4 "org/driftsieve/ItemRecord$Unselected$Kind") :
    MetFree l x (head1 (Jvm.Cond.code x code maxLocals ret :: ws) room_1) (fun a U => a = #[(.int p1), (.int p2)] ∧ Z.Warmed39 U.vm ∧ U.heap = h0) (fun _ _ _ _ _ => True) (fun _ U o U' => ∃ v L, o = .returned v ∧ Q0 n0 v U'.heap L ∧ FrameEnd U o U' L room_1.cells room_1.slots) := by
  refine MetFree.of_bodySF (plainFor_of_name pn_org_driftsieve_KindOfPinLaw) hisR ?_
  intro p e s m args below meth c s₁ Bd hml0 hP hK
  obtain ⟨rfl, hZ, hh⟩ := hP
  have hx := Bd.exec
  have hby := Bd.bytes
  have hml : c.maxLocals = 6 := hml0
  have hown : s.vm.findClass "org/driftsieve/KindOfPinLaw" = some m.cls := findClass_of_methodNamed Bd.named
  have hnm := (name_of_methodNamed Bd.named Bd.method).1
  have X0 : Stand p l e room_1 s m #[(.int p1), (.int p2)] below meth c s₁ [] 0 0 := Stand.of_body Bd
  have e0 : s₁.heap = h0 := by rw [← hh, Bd.state]; rfl
  have N0 := Fr.nil n0
  have KP0 : Keep h0 h0 [] := Keep.refl h0 _
  obtain ⟨G, hG⟩ : ∃ G : State, G = s₁.setTop (entryFrame m #[(.int p1), (.int p2)] maxLocals) := ⟨_, rfl⟩
  have pre0 : ∀ t, Steps p.tables e below (s₁.setTop (mkF m 0 #[.val (.int p1), .val (.int p2), .unset, .unset, .unset, .unset] [])) t → Steps p.tables e below G t := fun t k => hG ▸ castTop (ef_rm0 m p1 p2) k
  have K1 : ∀ t, Steps p.tables e below (s₁.setTop (mkF m 8 #[.val (.int p1), .val (.int p2), .val (.int ((p2 &&& (7 : Int32)) - (1 : Int32))), .unset, .unset, .unset] [(.int p1)])) t → Steps p.tables e below G t := by
    intro t k
    refine pre0 t ?_
    show Steps p.tables e below (s₁.setTop (mkF m 0 #[.val (.int p1), .val (.int p2), .unset, .unset, .unset, .unset] [])) _
    refine XS.iloadN X0.here hx rfl (hb hby at_0) rfl ?_
    show Steps p.tables e below (s₁.setTop (mkF m 1 #[.val (.int p1), .val (.int p2), .unset, .unset, .unset, .unset] [(.int p2)])) _
    refine XS.bipush X0.here hx rfl (hb hby at_1) ?_
    show Steps p.tables e below (s₁.setTop (mkF m 3 #[.val (.int p1), .val (.int p2), .unset, .unset, .unset, .unset] [(.int (7 : Int32)), (.int p2)])) _
    refine XS.iand X0.here hx rfl (hb hby at_3) rfl ?_
    show Steps p.tables e below (s₁.setTop (mkF m 4 #[.val (.int p1), .val (.int p2), .unset, .unset, .unset, .unset] [(.int (p2 &&& (7 : Int32)))])) _
    refine XS.iconst X0.here hx rfl (hb hby at_4) ?_
    show Steps p.tables e below (s₁.setTop (mkF m 5 #[.val (.int p1), .val (.int p2), .unset, .unset, .unset, .unset] [(.int (1 : Int32)), (.int (p2 &&& (7 : Int32)))])) _
    refine XS.isub X0.here hx rfl (hb hby at_5) rfl ?_
    show Steps p.tables e below (s₁.setTop (mkF m 6 #[.val (.int p1), .val (.int p2), .unset, .unset, .unset, .unset] [(.int ((p2 &&& (7 : Int32)) - (1 : Int32)))])) _
    refine XS.istoreN X0.here hx rfl (hb hby at_6) rfl (l' := #[.val (.int p1), .val (.int p2), .val (.int ((p2 &&& (7 : Int32)) - (1 : Int32))), .unset, .unset, .unset]) rfl ?_
    show Steps p.tables e below (s₁.setTop (mkF m 7 #[.val (.int p1), .val (.int p2), .val (.int ((p2 &&& (7 : Int32)) - (1 : Int32))), .unset, .unset, .unset] [])) _
    refine XS.iloadN X0.here hx rfl (hb hby at_7) rfl ?_
    show Steps p.tables e below (s₁.setTop (mkF m 8 #[.val (.int p1), .val (.int p2), .val (.int ((p2 &&& (7 : Int32)) - (1 : Int32))), .unset, .unset, .unset] [(.int p1)])) _
    exact k
  obtain ⟨_, _, ⟨T2, L2, k2, n2⟩, -, X2, ⟨Lc2, hQ2, l2, y2, z2⟩, st2⟩ := Jvm.LawKit.callS X0 hx (y := (⟨"org/driftsieve/ItemRecord$Unselected$Kind", "of", "(I)Lorg/driftsieve/ItemRecord$Unselected$Kind;"⟩ : MethodName)) hown (mvT hZ (hw _ (List.mem_of_getElem? (i := 0) rfl))) (mvT hZ (hw _ (List.mem_of_getElem? (i := 1) rfl))) (mvT hZ (hw _ (List.mem_of_getElem? (i := 2) rfl))) (mvT hZ (hw _ (List.mem_of_getElem? (i := 3) rfl))) (by decide) (backOf (W := 0) (rm1 l Z a0 hw [] p1 k uv u0 u1 u2 u3 u4 h0 n0 Z0 SV EV VV F0 F1 F2 F3 F4) hZ (hw _ (List.mem_of_getElem? (i := 3) rfl)) (hw _ (List.mem_of_getElem? (i := 2) rfl)) (by decide) (by decide)) (g := (mkF m 8 #[.val (.int p1), .val (.int p2), .val (.int ((p2 &&& (7 : Int32)) - (1 : Int32))), .unset, .unset, .unset] [(.int p1)])) rfl (by rw [hml]; rfl) (argsL := [(.int p1)]) (rest := []) (lenOf pd_1 rfl) rfl (by show 2 * 0 + _ ≤ _; exact Nat.le_of_eq rfl) (hb hby at_8) (fun _ _ => ⟨rfl, e0, (by decide : 0 + 1 ≤ _), (by decide : 0 + 5 ≤ _)⟩)
  dsimp only [Pt.U, Pt.locs, Pt.cells, Pt.slots] at X2 l2 y2 z2 st2 hQ2
  subst l2 y2 z2
  obtain ⟨rfl, Nq2, EX2⟩ := hQ2
  have N3 := Fr.app N0 Nq2
  have f4 := SV.ext EX2
  have f5 := EV.ext EX2
  have f6 := VV.ext EX2
  have f7 := S0.ext EX2
  have f8 := S1.ext EX2
  have f9 := S2.ext EX2
  have f10 := S3.ext EX2
  have f11 := S4.ext EX2
  have f12 := F0.ext EX2
  have f13 := F1.ext EX2
  have f14 := F2.ext EX2
  have f15 := F3.ext EX2
  have f16 := F4.ext EX2
  have f17 := E0.ext EX2
  have f18 := E1.ext EX2
  have f19 := E2.ext EX2
  have f20 := E3.ext EX2
  have f21 := E4.ext EX2
  have Z22 : n0 ≤ T2.heap.size := Nat.le_trans Z0 EX2.1
  have KP23 : Keep h0 T2.heap [] := KP0.ext EX2
  have K24 : ∀ t, Steps p.tables e below (T2.setTop (mkF m 11 #[.val (.int p1), .val (.int p2), .val (.int ((p2 &&& (7 : Int32)) - (1 : Int32))), .unset, .unset, .unset] [(own_of p1 u0 u1 u2 u3 u4)])) t → Steps p.tables e below G t := fun t k => K1 t (st2 _ k)
  have K25 : ∀ t, Steps p.tables e below (T2.setTop (mkF m 13 #[.val (.int p1), .val (.int p2), .val (.int ((p2 &&& (7 : Int32)) - (1 : Int32))), .val (own_of p1 u0 u1 u2 u3 u4), .unset, .unset] [(.int ((p2 &&& (7 : Int32)) - (1 : Int32)))])) t → Steps p.tables e below G t := by
    intro t k
    refine K24 t ?_
    show Steps p.tables e below (T2.setTop (mkF m 11 #[.val (.int p1), .val (.int p2), .val (.int ((p2 &&& (7 : Int32)) - (1 : Int32))), .unset, .unset, .unset] [(own_of p1 u0 u1 u2 u3 u4)])) _
    refine XS.astoreN X2.here hx rfl (hb hby at_11) rfl (own_of_ref _ _ _ _ _ _).1 (l' := #[.val (.int p1), .val (.int p2), .val (.int ((p2 &&& (7 : Int32)) - (1 : Int32))), .val (own_of p1 u0 u1 u2 u3 u4), .unset, .unset]) (XS.store1 (o := .unset) rfl (Or.inl rfl) (own_of_ref _ _ _ _ _ _).2) ?_
    show Steps p.tables e below (T2.setTop (mkF m 12 #[.val (.int p1), .val (.int p2), .val (.int ((p2 &&& (7 : Int32)) - (1 : Int32))), .val (own_of p1 u0 u1 u2 u3 u4), .unset, .unset] [])) _
    refine XS.iloadN X2.here hx rfl (hb hby at_12) rfl ?_
    show Steps p.tables e below (T2.setTop (mkF m 13 #[.val (.int p1), .val (.int p2), .val (.int ((p2 &&& (7 : Int32)) - (1 : Int32))), .val (own_of p1 u0 u1 u2 u3 u4), .unset, .unset] [(.int ((p2 &&& (7 : Int32)) - (1 : Int32)))])) _
    exact k
  obtain ⟨_, _, ⟨T26, L26, k26, n26⟩, -, X26, ⟨Lc26, hQ26, l26, y26, z26⟩, st26⟩ := Jvm.LawKit.callS X2 hx (y := (⟨"org/driftsieve/ItemRecord$Unselected$Kind", "of", "(I)Lorg/driftsieve/ItemRecord$Unselected$Kind;"⟩ : MethodName)) hown (mvT hZ (hw _ (List.mem_of_getElem? (i := 0) rfl))) (mvT hZ (hw _ (List.mem_of_getElem? (i := 1) rfl))) (mvT hZ (hw _ (List.mem_of_getElem? (i := 2) rfl))) (mvT hZ (hw _ (List.mem_of_getElem? (i := 3) rfl))) (by decide) (backOf (W := 0) (rm1 l Z a0 hw [] ((p2 &&& (7 : Int32)) - (1 : Int32)) k uv u0 u1 u2 u3 u4 T2.heap n0 Z22 f4 f5 f6 f12 f13 f14 f15 f16) hZ (hw _ (List.mem_of_getElem? (i := 3) rfl)) (hw _ (List.mem_of_getElem? (i := 2) rfl)) (by decide) (by decide)) (g := (mkF m 13 #[.val (.int p1), .val (.int p2), .val (.int ((p2 &&& (7 : Int32)) - (1 : Int32))), .val (own_of p1 u0 u1 u2 u3 u4), .unset, .unset] [(.int ((p2 &&& (7 : Int32)) - (1 : Int32)))])) rfl (by rw [hml]; rfl) (argsL := [(.int ((p2 &&& (7 : Int32)) - (1 : Int32)))]) (rest := []) (lenOf pd_1 rfl) rfl (by show 2 * 0 + _ ≤ _; exact Nat.le_of_eq rfl) (hb hby at_13) (fun _ _ => ⟨rfl, rfl, (by decide : 1 + 1 ≤ _), (by decide : 5 + 5 ≤ _)⟩)
  dsimp only [Pt.U, Pt.locs, Pt.cells, Pt.slots] at X26 l26 y26 z26 st26 hQ26
  subst l26 y26 z26
  obtain ⟨rfl, Nq26, EX26⟩ := hQ26
  have N27 := Fr.app N3 Nq26
  have f28 := f4.ext EX26
  have f29 := f5.ext EX26
  have f30 := f6.ext EX26
  have f31 := f7.ext EX26
  have f32 := f8.ext EX26
  have f33 := f9.ext EX26
  have f34 := f10.ext EX26
  have f35 := f11.ext EX26
  have f36 := f12.ext EX26
  have f37 := f13.ext EX26
  have f38 := f14.ext EX26
  have f39 := f15.ext EX26
  have f40 := f16.ext EX26
  have f41 := f17.ext EX26
  have f42 := f18.ext EX26
  have f43 := f19.ext EX26
  have f44 := f20.ext EX26
  have f45 := f21.ext EX26
  have Z46 : n0 ≤ T26.heap.size := Nat.le_trans Z22 EX26.1
  have KP47 : Keep h0 T26.heap [] := KP23.ext EX26
  have K48 : ∀ t, Steps p.tables e below (T26.setTop (mkF m 16 #[.val (.int p1), .val (.int p2), .val (.int ((p2 &&& (7 : Int32)) - (1 : Int32))), .val (own_of p1 u0 u1 u2 u3 u4), .unset, .unset] [(own_of ((p2 &&& (7 : Int32)) - (1 : Int32)) u0 u1 u2 u3 u4)])) t → Steps p.tables e below G t := fun t k => K25 t (st26 _ k)
  have K49 : ∀ t, Steps p.tables e below (T26.setTop (mkF m 20 #[.val (.int p1), .val (.int p2), .val (.int ((p2 &&& (7 : Int32)) - (1 : Int32))), .val (own_of p1 u0 u1 u2 u3 u4), .val (own_of ((p2 &&& (7 : Int32)) - (1 : Int32)) u0 u1 u2 u3 u4), .unset] [(.int p1), (own_of p1 u0 u1 u2 u3 u4)])) t → Steps p.tables e below G t := by
    intro t k
    refine K48 t ?_
    show Steps p.tables e below (T26.setTop (mkF m 16 #[.val (.int p1), .val (.int p2), .val (.int ((p2 &&& (7 : Int32)) - (1 : Int32))), .val (own_of p1 u0 u1 u2 u3 u4), .unset, .unset] [(own_of ((p2 &&& (7 : Int32)) - (1 : Int32)) u0 u1 u2 u3 u4)])) _
    refine XS.astore X26.here hx rfl (hb hby at_16) rfl (own_of_ref _ _ _ _ _ _).1 (l' := #[.val (.int p1), .val (.int p2), .val (.int ((p2 &&& (7 : Int32)) - (1 : Int32))), .val (own_of p1 u0 u1 u2 u3 u4), .val (own_of ((p2 &&& (7 : Int32)) - (1 : Int32)) u0 u1 u2 u3 u4), .unset]) (XS.store1 (o := .unset) rfl (Or.inl rfl) (own_of_ref _ _ _ _ _ _).2) ?_
    show Steps p.tables e below (T26.setTop (mkF m 18 #[.val (.int p1), .val (.int p2), .val (.int ((p2 &&& (7 : Int32)) - (1 : Int32))), .val (own_of p1 u0 u1 u2 u3 u4), .val (own_of ((p2 &&& (7 : Int32)) - (1 : Int32)) u0 u1 u2 u3 u4), .unset] [])) _
    refine XS.aloadN X26.here hx rfl (hb hby at_18) rfl (own_of_ref _ _ _ _ _ _).1 ?_
    show Steps p.tables e below (T26.setTop (mkF m 19 #[.val (.int p1), .val (.int p2), .val (.int ((p2 &&& (7 : Int32)) - (1 : Int32))), .val (own_of p1 u0 u1 u2 u3 u4), .val (own_of ((p2 &&& (7 : Int32)) - (1 : Int32)) u0 u1 u2 u3 u4), .unset] [(own_of p1 u0 u1 u2 u3 u4)])) _
    refine XS.iloadN X26.here hx rfl (hb hby at_19) rfl ?_
    show Steps p.tables e below (T26.setTop (mkF m 20 #[.val (.int p1), .val (.int p2), .val (.int ((p2 &&& (7 : Int32)) - (1 : Int32))), .val (own_of p1 u0 u1 u2 u3 u4), .val (own_of ((p2 &&& (7 : Int32)) - (1 : Int32)) u0 u1 u2 u3 u4), .unset] [(.int p1), (own_of p1 u0 u1 u2 u3 u4)])) _
    exact k
  obtain ⟨_, _, ⟨T50, L50, k50, n50⟩, -, X50, ⟨Lc50, hQ50, l50, y50, z50⟩, st50⟩ := Jvm.LawKit.callS X26 hx (y := (⟨"org/driftsieve/KindOfPinLaw", "expected", "(I)Lorg/driftsieve/ItemRecord$Unselected$Kind;"⟩ : MethodName)) hown (mvT hZ (hw _ (List.mem_of_getElem? (i := 26) rfl))) (mvT hZ (hw _ (List.mem_of_getElem? (i := 27) rfl))) (mvT hZ (hw _ (List.mem_of_getElem? (i := 28) rfl))) (mvT hZ (hw _ (List.mem_of_getElem? (i := 29) rfl))) (by decide) (backOf (W := 1) (rm3 l Z a0 hw [] p1 u0 u1 u2 u3 u4 T26.heap n0 Z46 f31 f32 f33 f34 f35) hZ (hw _ (List.mem_of_getElem? (i := 29) rfl)) (hw _ (List.mem_of_getElem? (i := 28) rfl)) (by decide) (by decide)) (g := (mkF m 20 #[.val (.int p1), .val (.int p2), .val (.int ((p2 &&& (7 : Int32)) - (1 : Int32))), .val (own_of p1 u0 u1 u2 u3 u4), .val (own_of ((p2 &&& (7 : Int32)) - (1 : Int32)) u0 u1 u2 u3 u4), .unset] [(.int p1), (own_of p1 u0 u1 u2 u3 u4)])) rfl (by rw [hml]; rfl) (argsL := [(.int p1)]) (rest := [(own_of p1 u0 u1 u2 u3 u4)]) (lenOf pd_1 rfl) rfl (by simp only [List.map, List.sum_cons, List.sum_nil, (own_of_ref _ _ _ _ _ _).2] <;> decide) (hb hby at_20) (fun _ _ => ⟨rfl, rfl, (by decide : 2 + 0 ≤ _), (by decide : 10 + 0 ≤ _)⟩)
  dsimp only [Pt.U, Pt.locs, Pt.cells, Pt.slots] at X50 l50 y50 z50 st50 hQ50
  subst l50 y50 z50
  obtain ⟨rfl, Nq50, e50⟩ := hQ50
  have N51 := Fr.app N27 Nq50
  have K52 : ∀ t, Steps p.tables e below (T50.setTop (mkF m 23 #[.val (.int p1), .val (.int p2), .val (.int ((p2 &&& (7 : Int32)) - (1 : Int32))), .val (own_of p1 u0 u1 u2 u3 u4), .val (own_of ((p2 &&& (7 : Int32)) - (1 : Int32)) u0 u1 u2 u3 u4), .unset] [(own_of p1 u0 u1 u2 u3 u4), (own_of p1 u0 u1 u2 u3 u4)])) t → Steps p.tables e below G t := fun t k => K49 t (st50 _ k)
  have K53 : ∀ t, Steps p.tables e below (T50.setTop (mkF m 29 #[.val (.int p1), .val (.int p2), .val (.int ((p2 &&& (7 : Int32)) - (1 : Int32))), .val (own_of p1 u0 u1 u2 u3 u4), .val (own_of ((p2 &&& (7 : Int32)) - (1 : Int32)) u0 u1 u2 u3 u4), .unset] [(.int ((p2 &&& (7 : Int32)) - (1 : Int32))), (own_of ((p2 &&& (7 : Int32)) - (1 : Int32)) u0 u1 u2 u3 u4)])) t → Steps p.tables e below G t := by
    intro t k
    refine K52 t ?_
    show Steps p.tables e below (T50.setTop (mkF m 23 #[.val (.int p1), .val (.int p2), .val (.int ((p2 &&& (7 : Int32)) - (1 : Int32))), .val (own_of p1 u0 u1 u2 u3 u4), .val (own_of ((p2 &&& (7 : Int32)) - (1 : Int32)) u0 u1 u2 u3 u4), .unset] [(own_of p1 u0 u1 u2 u3 u4), (own_of p1 u0 u1 u2 u3 u4)])) _
    refine Jvm.RoadKit.acmp (g := (mkF m 23 #[.val (.int p1), .val (.int p2), .val (.int ((p2 &&& (7 : Int32)) - (1 : Int32))), .val (own_of p1 u0 u1 u2 u3 u4), .val (own_of ((p2 &&& (7 : Int32)) - (1 : Int32)) u0 u1 u2 u3 u4), .unset] [(own_of p1 u0 u1 u2 u3 u4), (own_of p1 u0 u1 u2 u3 u4)])) X50 hx rfl (own_of_ref _ _ _ _ _ _).1 (own_of_ref _ _ _ _ _ _).1 (pc0 := 23) (pc' := 26) (same := true) rfl (hb hby at_23) rfl (decide_eq_true (rfl : (own_of p1 u0 u1 u2 u3 u4) = (own_of p1 u0 u1 u2 u3 u4))) (by decide) (by decide) ?_
    show Steps p.tables e below (T50.setTop (mkF m 26 #[.val (.int p1), .val (.int p2), .val (.int ((p2 &&& (7 : Int32)) - (1 : Int32))), .val (own_of p1 u0 u1 u2 u3 u4), .val (own_of ((p2 &&& (7 : Int32)) - (1 : Int32)) u0 u1 u2 u3 u4), .unset] [])) _
    refine XS.aload X50.here hx rfl (hb hby at_26) rfl (own_of_ref _ _ _ _ _ _).1 ?_
    show Steps p.tables e below (T50.setTop (mkF m 28 #[.val (.int p1), .val (.int p2), .val (.int ((p2 &&& (7 : Int32)) - (1 : Int32))), .val (own_of p1 u0 u1 u2 u3 u4), .val (own_of ((p2 &&& (7 : Int32)) - (1 : Int32)) u0 u1 u2 u3 u4), .unset] [(own_of ((p2 &&& (7 : Int32)) - (1 : Int32)) u0 u1 u2 u3 u4)])) _
    refine XS.iloadN X50.here hx rfl (hb hby at_28) rfl ?_
    show Steps p.tables e below (T50.setTop (mkF m 29 #[.val (.int p1), .val (.int p2), .val (.int ((p2 &&& (7 : Int32)) - (1 : Int32))), .val (own_of p1 u0 u1 u2 u3 u4), .val (own_of ((p2 &&& (7 : Int32)) - (1 : Int32)) u0 u1 u2 u3 u4), .unset] [(.int ((p2 &&& (7 : Int32)) - (1 : Int32))), (own_of ((p2 &&& (7 : Int32)) - (1 : Int32)) u0 u1 u2 u3 u4)])) _
    exact k
  obtain ⟨_, _, ⟨T54, L54, k54, n54⟩, -, X54, ⟨Lc54, hQ54, l54, y54, z54⟩, st54⟩ := Jvm.LawKit.callS X50 hx (y := (⟨"org/driftsieve/KindOfPinLaw", "expected", "(I)Lorg/driftsieve/ItemRecord$Unselected$Kind;"⟩ : MethodName)) hown (mvT hZ (hw _ (List.mem_of_getElem? (i := 26) rfl))) (mvT hZ (hw _ (List.mem_of_getElem? (i := 27) rfl))) (mvT hZ (hw _ (List.mem_of_getElem? (i := 28) rfl))) (mvT hZ (hw _ (List.mem_of_getElem? (i := 29) rfl))) (by decide) (backOf (W := 1) (rm3 l Z a0 hw [] ((p2 &&& (7 : Int32)) - (1 : Int32)) u0 u1 u2 u3 u4 T26.heap n0 Z46 f31 f32 f33 f34 f35) hZ (hw _ (List.mem_of_getElem? (i := 29) rfl)) (hw _ (List.mem_of_getElem? (i := 28) rfl)) (by decide) (by decide)) (g := (mkF m 29 #[.val (.int p1), .val (.int p2), .val (.int ((p2 &&& (7 : Int32)) - (1 : Int32))), .val (own_of p1 u0 u1 u2 u3 u4), .val (own_of ((p2 &&& (7 : Int32)) - (1 : Int32)) u0 u1 u2 u3 u4), .unset] [(.int ((p2 &&& (7 : Int32)) - (1 : Int32))), (own_of ((p2 &&& (7 : Int32)) - (1 : Int32)) u0 u1 u2 u3 u4)])) rfl (by rw [hml]; rfl) (argsL := [(.int ((p2 &&& (7 : Int32)) - (1 : Int32)))]) (rest := [(own_of ((p2 &&& (7 : Int32)) - (1 : Int32)) u0 u1 u2 u3 u4)]) (lenOf pd_1 rfl) rfl (by simp only [List.map, List.sum_cons, List.sum_nil, (own_of_ref _ _ _ _ _ _).2] <;> decide) (hb hby at_29) (fun _ _ => ⟨rfl, e50, (by decide : 2 + 0 ≤ _), (by decide : 10 + 0 ≤ _)⟩)
  dsimp only [Pt.U, Pt.locs, Pt.cells, Pt.slots] at X54 l54 y54 z54 st54 hQ54
  subst l54 y54 z54
  obtain ⟨rfl, Nq54, e54⟩ := hQ54
  have N55 := Fr.app N51 Nq54
  have K56 : ∀ t, Steps p.tables e below (T54.setTop (mkF m 32 #[.val (.int p1), .val (.int p2), .val (.int ((p2 &&& (7 : Int32)) - (1 : Int32))), .val (own_of p1 u0 u1 u2 u3 u4), .val (own_of ((p2 &&& (7 : Int32)) - (1 : Int32)) u0 u1 u2 u3 u4), .unset] [(own_of ((p2 &&& (7 : Int32)) - (1 : Int32)) u0 u1 u2 u3 u4), (own_of ((p2 &&& (7 : Int32)) - (1 : Int32)) u0 u1 u2 u3 u4)])) t → Steps p.tables e below G t := fun t k => K53 t (st54 _ k)
  have K57 : ∀ t, Steps p.tables e below (T54.setTop (mkF m 42 #[.val (.int p1), .val (.int p2), .val (.int ((p2 &&& (7 : Int32)) - (1 : Int32))), .val (own_of p1 u0 u1 u2 u3 u4), .val (own_of ((p2 &&& (7 : Int32)) - (1 : Int32)) u0 u1 u2 u3 u4), .val (.int (1 : Int32))] [])) t → Steps p.tables e below G t := by
    intro t k
    refine K56 t ?_
    show Steps p.tables e below (T54.setTop (mkF m 32 #[.val (.int p1), .val (.int p2), .val (.int ((p2 &&& (7 : Int32)) - (1 : Int32))), .val (own_of p1 u0 u1 u2 u3 u4), .val (own_of ((p2 &&& (7 : Int32)) - (1 : Int32)) u0 u1 u2 u3 u4), .unset] [(own_of ((p2 &&& (7 : Int32)) - (1 : Int32)) u0 u1 u2 u3 u4), (own_of ((p2 &&& (7 : Int32)) - (1 : Int32)) u0 u1 u2 u3 u4)])) _
    refine Jvm.RoadKit.acmp (g := (mkF m 32 #[.val (.int p1), .val (.int p2), .val (.int ((p2 &&& (7 : Int32)) - (1 : Int32))), .val (own_of p1 u0 u1 u2 u3 u4), .val (own_of ((p2 &&& (7 : Int32)) - (1 : Int32)) u0 u1 u2 u3 u4), .unset] [(own_of ((p2 &&& (7 : Int32)) - (1 : Int32)) u0 u1 u2 u3 u4), (own_of ((p2 &&& (7 : Int32)) - (1 : Int32)) u0 u1 u2 u3 u4)])) X54 hx rfl (own_of_ref _ _ _ _ _ _).1 (own_of_ref _ _ _ _ _ _).1 (pc0 := 32) (pc' := 35) (same := true) rfl (hb hby at_32) rfl (decide_eq_true (rfl : (own_of ((p2 &&& (7 : Int32)) - (1 : Int32)) u0 u1 u2 u3 u4) = (own_of ((p2 &&& (7 : Int32)) - (1 : Int32)) u0 u1 u2 u3 u4))) (by decide) (by decide) ?_
    show Steps p.tables e below (T54.setTop (mkF m 35 #[.val (.int p1), .val (.int p2), .val (.int ((p2 &&& (7 : Int32)) - (1 : Int32))), .val (own_of p1 u0 u1 u2 u3 u4), .val (own_of ((p2 &&& (7 : Int32)) - (1 : Int32)) u0 u1 u2 u3 u4), .unset] [])) _
    refine XS.iconst X54.here hx rfl (hb hby at_35) ?_
    show Steps p.tables e below (T54.setTop (mkF m 36 #[.val (.int p1), .val (.int p2), .val (.int ((p2 &&& (7 : Int32)) - (1 : Int32))), .val (own_of p1 u0 u1 u2 u3 u4), .val (own_of ((p2 &&& (7 : Int32)) - (1 : Int32)) u0 u1 u2 u3 u4), .unset] [(.int (1 : Int32))])) _
    refine XS.goto X54.here hx rfl (pc0 := 36) (pc' := 40) rfl (hb hby at_36) (by decide) (by decide) ?_
    show Steps p.tables e below (T54.setTop (mkF m 40 #[.val (.int p1), .val (.int p2), .val (.int ((p2 &&& (7 : Int32)) - (1 : Int32))), .val (own_of p1 u0 u1 u2 u3 u4), .val (own_of ((p2 &&& (7 : Int32)) - (1 : Int32)) u0 u1 u2 u3 u4), .unset] [(.int (1 : Int32))])) _
    refine XS.istore X54.here hx rfl (hb hby at_40) rfl (l' := #[.val (.int p1), .val (.int p2), .val (.int ((p2 &&& (7 : Int32)) - (1 : Int32))), .val (own_of p1 u0 u1 u2 u3 u4), .val (own_of ((p2 &&& (7 : Int32)) - (1 : Int32)) u0 u1 u2 u3 u4), .val (.int (1 : Int32))]) rfl ?_
    show Steps p.tables e below (T54.setTop (mkF m 42 #[.val (.int p1), .val (.int p2), .val (.int ((p2 &&& (7 : Int32)) - (1 : Int32))), .val (own_of p1 u0 u1 u2 u3 u4), .val (own_of ((p2 &&& (7 : Int32)) - (1 : Int32)) u0 u1 u2 u3 u4), .val (.int (1 : Int32))] [])) _
    exact k
  rcases own_of_or (P := fun u c => Exa Z T26.heap u "org/driftsieve/ItemRecord$Unselected$Kind" ∧ Fld Z T26.heap u "org/driftsieve/ItemRecord$Unselected$Kind" "code" "I" (.int c)) ⟨f41, f36⟩ ⟨f42, f37⟩ ⟨f43, f38⟩ ⟨f44, f39⟩ ⟨f45, f40⟩ ((p2 &&& (7 : Int32)) - (1 : Int32)) with hN | ⟨u, hN, EU, FU⟩
  · have K58 : ∀ t, Steps p.tables e below (T54.setTop (mkF m 42 #[.val (.int p1), .val (.int p2), .val (.int ((p2 &&& (7 : Int32)) - (1 : Int32))), .val (own_of p1 u0 u1 u2 u3 u4), .val .null, .val (.int (1 : Int32))] [])) t → Steps p.tables e below G t := by have q := K57; rw [hN] at q; exact q
    obtain ⟨fs, hr, hrun, hended, hW, hsame⟩ := X54.leave (v := some (.int (1 : Int32))) (fun h => by rw [Bd.returns] at h; cases h)
    have KF := K58
    rw [hG] at KF
    refine ⟨_, _, KF _ ?_, hrun, hended, _, _, rfl, ?_, ⟨_, rfl⟩, hW, hsame.mono (by decide) (by decide)⟩
    · show Steps p.tables e below (T54.setTop (mkF m 42 #[.val (.int p1), .val (.int p2), .val (.int ((p2 &&& (7 : Int32)) - (1 : Int32))), .val (own_of p1 u0 u1 u2 u3 u4), .val .null, .val (.int (1 : Int32))] [])) _
      refine XS.aload X54.here hx rfl (hb hby at_42) rfl rfl ?_
      show Steps p.tables e below (T54.setTop (mkF m 44 #[.val (.int p1), .val (.int p2), .val (.int ((p2 &&& (7 : Int32)) - (1 : Int32))), .val (own_of p1 u0 u1 u2 u3 u4), .val .null, .val (.int (1 : Int32))] [.null])) _
      refine XS.ifnullYes X54.here hx rfl (pc0 := 44) (pc' := 68) rfl (hb hby at_44) rfl (by decide) (by decide) ?_
      show Steps p.tables e below (T54.setTop (mkF m 68 #[.val (.int p1), .val (.int p2), .val (.int ((p2 &&& (7 : Int32)) - (1 : Int32))), .val (own_of p1 u0 u1 u2 u3 u4), .val .null, .val (.int (1 : Int32))] [])) _
      refine XS.iload X54.here hx rfl (hb hby at_68) rfl ?_
      show Steps p.tables e below (T54.setTop (mkF m 70 #[.val (.int p1), .val (.int p2), .val (.int ((p2 &&& (7 : Int32)) - (1 : Int32))), .val (own_of p1 u0 u1 u2 u3 u4), .val .null, .val (.int (1 : Int32))] [(.int (1 : Int32))])) _
      exact retN X54 hx (t := .boolean) Bd.returns (by simp) (hb hby at_70) hr
    · show Q0 n0 _ T54.heap _
      rw [e54]
      exact ⟨rfl, N55⟩
  · have K59 : ∀ t, Steps p.tables e below (T54.setTop (mkF m 42 #[.val (.int p1), .val (.int p2), .val (.int ((p2 &&& (7 : Int32)) - (1 : Int32))), .val (own_of p1 u0 u1 u2 u3 u4), .val (.ref u), .val (.int (1 : Int32))] [])) t → Steps p.tables e below G t := by have q := K57; rw [hN] at q; exact q
    have K60 : ∀ t, Steps p.tables e below (T54.setTop (mkF m 54 #[.val (.int p1), .val (.int p2), .val (.int ((p2 &&& (7 : Int32)) - (1 : Int32))), .val (own_of p1 u0 u1 u2 u3 u4), .val (.ref u), .val (.int (1 : Int32))] [(.ref u)])) t → Steps p.tables e below G t := by
      intro t k
      refine K59 t ?_
      show Steps p.tables e below (T54.setTop (mkF m 42 #[.val (.int p1), .val (.int p2), .val (.int ((p2 &&& (7 : Int32)) - (1 : Int32))), .val (own_of p1 u0 u1 u2 u3 u4), .val (.ref u), .val (.int (1 : Int32))] [])) _
      refine XS.aload X54.here hx rfl (hb hby at_42) rfl rfl ?_
      show Steps p.tables e below (T54.setTop (mkF m 44 #[.val (.int p1), .val (.int p2), .val (.int ((p2 &&& (7 : Int32)) - (1 : Int32))), .val (own_of p1 u0 u1 u2 u3 u4), .val (.ref u), .val (.int (1 : Int32))] [(.ref u)])) _
      refine XS.ifnullNo X54.here hx rfl (hb hby at_44) rfl ?_
      show Steps p.tables e below (T54.setTop (mkF m 47 #[.val (.int p1), .val (.int p2), .val (.int ((p2 &&& (7 : Int32)) - (1 : Int32))), .val (own_of p1 u0 u1 u2 u3 u4), .val (.ref u), .val (.int (1 : Int32))] [])) _
      refine XS.iload X54.here hx rfl (hb hby at_47) rfl ?_
      show Steps p.tables e below (T54.setTop (mkF m 49 #[.val (.int p1), .val (.int p2), .val (.int ((p2 &&& (7 : Int32)) - (1 : Int32))), .val (own_of p1 u0 u1 u2 u3 u4), .val (.ref u), .val (.int (1 : Int32))] [(.int (1 : Int32))])) _
      refine XS.ifNo X54.here hx rfl (hb hby at_49) rfl ((if0 _ _).trans (feq (by decide)).1) ?_
      show Steps p.tables e below (T54.setTop (mkF m 52 #[.val (.int p1), .val (.int p2), .val (.int ((p2 &&& (7 : Int32)) - (1 : Int32))), .val (own_of p1 u0 u1 u2 u3 u4), .val (.ref u), .val (.int (1 : Int32))] [])) _
      refine XS.aload X54.here hx rfl (hb hby at_52) rfl rfl ?_
      show Steps p.tables e below (T54.setTop (mkF m 54 #[.val (.int p1), .val (.int p2), .val (.int ((p2 &&& (7 : Int32)) - (1 : Int32))), .val (own_of p1 u0 u1 u2 u3 u4), .val (.ref u), .val (.int (1 : Int32))] [(.ref u)])) _
      exact k
    obtain ⟨cq61, kq61, q61a, q61b, q61c⟩ := isOf hZ e54 EU
    obtain ⟨_, _, ⟨T61, L61, k61, n61⟩, -, X61, ⟨Lc61, hQ61, l61, y61, z61⟩, st61⟩ := X54.virtualBack hx (y := (⟨"org/driftsieve/ItemRecord$Unselected$Kind", "code", "()I"⟩ : MethodName)) (z := (⟨"org/driftsieve/ItemRecord$Unselected$Kind", "code", "()I"⟩ : MethodName)) hown (mvT hZ (hw _ (List.mem_of_getElem? (i := 32) rfl))) (mvT hZ (hw _ (List.mem_of_getElem? (i := 33) rfl))) (notFace_of_selects (args := #[]) (mvT hZ (hw _ (List.mem_of_getElem? (i := 35) rfl)))) (mvT hZ (hw _ (List.mem_of_getElem? (i := 35) rfl))) (mvT hZ (hw _ (List.mem_of_getElem? (i := 34) rfl))) (by decide) (backOf (W := 0) (rm4 l Z a0 hw [] u ((p2 &&& (7 : Int32)) - (1 : Int32)) T26.heap n0 Z46 FU) hZ (hw _ (List.mem_of_getElem? (i := 36) rfl)) (hw _ (List.mem_of_getElem? (i := 2) rfl)) (by decide) (by decide)) q61a q61c (g := (mkF m 54 #[.val (.int p1), .val (.int p2), .val (.int ((p2 &&& (7 : Int32)) - (1 : Int32))), .val (own_of p1 u0 u1 u2 u3 u4), .val (.ref u), .val (.int (1 : Int32))] [(.ref u)])) rfl (by rw [hml]; rfl) (Steps.refl _) (argsL := []) (rest := []) (lenOf pd_2 rfl) rfl (by show 2 * 0 + _ ≤ _; exact Nat.le_of_eq rfl) (hb hby at_54) (fun _ _ => ⟨rfl, e54, (by decide : 2 + 0 ≤ _), (by decide : 10 + 0 ≤ _)⟩)
    dsimp only [Pt.U, Pt.locs, Pt.cells, Pt.slots] at X61 l61 y61 z61 st61 hQ61
    subst l61 y61 z61
    obtain ⟨rfl, Nq61, e61⟩ := hQ61
    have N62 := Fr.app N55 Nq61
    have K63 : ∀ t, Steps p.tables e below (T61.setTop (mkF m 57 #[.val (.int p1), .val (.int p2), .val (.int ((p2 &&& (7 : Int32)) - (1 : Int32))), .val (own_of p1 u0 u1 u2 u3 u4), .val (.ref u), .val (.int (1 : Int32))] [(.int ((p2 &&& (7 : Int32)) - (1 : Int32)))])) t → Steps p.tables e below G t := fun t k => K60 t (st61.trans k)
    obtain ⟨fs, hr, hrun, hended, hW, hsame⟩ := X61.leave (v := some (.int (1 : Int32))) (fun h => by rw [Bd.returns] at h; cases h)
    have KF := K63
    rw [hG] at KF
    refine ⟨_, _, KF _ ?_, hrun, hended, _, _, rfl, ?_, ⟨_, rfl⟩, hW, hsame.mono (by decide) (by decide)⟩
    · show Steps p.tables e below (T61.setTop (mkF m 57 #[.val (.int p1), .val (.int p2), .val (.int ((p2 &&& (7 : Int32)) - (1 : Int32))), .val (own_of p1 u0 u1 u2 u3 u4), .val (.ref u), .val (.int (1 : Int32))] [(.int ((p2 &&& (7 : Int32)) - (1 : Int32)))])) _
      refine XS.iloadN X61.here hx rfl (hb hby at_57) rfl ?_
      show Steps p.tables e below (T61.setTop (mkF m 58 #[.val (.int p1), .val (.int p2), .val (.int ((p2 &&& (7 : Int32)) - (1 : Int32))), .val (own_of p1 u0 u1 u2 u3 u4), .val (.ref u), .val (.int (1 : Int32))] [(.int ((p2 &&& (7 : Int32)) - (1 : Int32))), (.int ((p2 &&& (7 : Int32)) - (1 : Int32)))])) _
      refine XS.icmpNo X61.here hx rfl (hb hby at_58) rfl (teq (rfl : ((p2 &&& (7 : Int32)) - (1 : Int32)) = ((p2 &&& (7 : Int32)) - (1 : Int32)))).2 ?_
      show Steps p.tables e below (T61.setTop (mkF m 61 #[.val (.int p1), .val (.int p2), .val (.int ((p2 &&& (7 : Int32)) - (1 : Int32))), .val (own_of p1 u0 u1 u2 u3 u4), .val (.ref u), .val (.int (1 : Int32))] [])) _
      refine XS.iconst X61.here hx rfl (hb hby at_61) ?_
      show Steps p.tables e below (T61.setTop (mkF m 62 #[.val (.int p1), .val (.int p2), .val (.int ((p2 &&& (7 : Int32)) - (1 : Int32))), .val (own_of p1 u0 u1 u2 u3 u4), .val (.ref u), .val (.int (1 : Int32))] [(.int (1 : Int32))])) _
      refine XS.goto X61.here hx rfl (pc0 := 62) (pc' := 66) rfl (hb hby at_62) (by decide) (by decide) ?_
      show Steps p.tables e below (T61.setTop (mkF m 66 #[.val (.int p1), .val (.int p2), .val (.int ((p2 &&& (7 : Int32)) - (1 : Int32))), .val (own_of p1 u0 u1 u2 u3 u4), .val (.ref u), .val (.int (1 : Int32))] [(.int (1 : Int32))])) _
      refine XS.istore X61.here hx rfl (hb hby at_66) rfl (l' := #[.val (.int p1), .val (.int p2), .val (.int ((p2 &&& (7 : Int32)) - (1 : Int32))), .val (own_of p1 u0 u1 u2 u3 u4), .val (.ref u), .val (.int (1 : Int32))]) rfl ?_
      show Steps p.tables e below (T61.setTop (mkF m 68 #[.val (.int p1), .val (.int p2), .val (.int ((p2 &&& (7 : Int32)) - (1 : Int32))), .val (own_of p1 u0 u1 u2 u3 u4), .val (.ref u), .val (.int (1 : Int32))] [])) _
      refine XS.iload X61.here hx rfl (hb hby at_68) rfl ?_
      show Steps p.tables e below (T61.setTop (mkF m 70 #[.val (.int p1), .val (.int p2), .val (.int ((p2 &&& (7 : Int32)) - (1 : Int32))), .val (own_of p1 u0 u1 u2 u3 u4), .val (.ref u), .val (.int (1 : Int32))] [(.int (1 : Int32))])) _
      exact retN X61 hx (t := .boolean) Bd.returns (by simp) (hb hby at_70) hr
    · show Q0 n0 _ T61.heap _
      rw [e61]
      exact ⟨rfl, N62⟩
set_option maxRecDepth 65536 in
set_option maxHeartbeats 40000000 in
theorem comes_1 {Post : Tables → Env → Array Value → State → Outcome → State → Prop} (hpost : ∀ tb e args s v u, (limb_1_1.after args s (.returned v) u = true ∧ limb_1_2.after args s (.returned v) u = true ∧ True) → FrameEnd s (.returned v) u (Jvm.fieldLocs frame_1_writes args s ++ Jvm.arrayLocs frame_1_arrays args s ++ Jvm.staticLocs frame_1_statics s) 16 128 → Post tb e args s (.returned v) u) :
    ArmFor flags0 classFile x code maxLocals ret World_1 tables_1 room_1 Calls_1 rest_1 Pre_1 Post := by
  intro l hfl _ _ p e ha hc hk s m args below hf hA hF happ hP
  obtain ⟨hcalls, hrest, hpre⟩ := hP
  obtain ⟨-, -, -, hnamed, -, -, -, hat⟩ := (Spec.applies_iff hf).mp happ
  obtain ⟨hg, hn⟩ := and_e (Cond.before_iff.mp (show (Jvm.Cond.and given_1 narrow_1).before args s = true from hpre))
  obtain ⟨gc, gr0⟩ := and_e hg
  obtain ⟨ga0, gr1⟩ := and_e gr0
  have ga1 := gr1
  obtain ⟨w0, w1, rfl⟩ : ∃ w0 w1 : Value, args = #[w0, w1] := by
    have hs : args.size = 2 := by simpa [Cond.value, given_1] using gc
    obtain ⟨L⟩ := args
    match L, hs with
    | [w0, w1], _ => exact ⟨w0, w1, rfl⟩
  have hw := fun d (hd : d ∈ tables_1) => atoms_spec (ws := Jvm.Cond.code x code maxLocals ret :: tables_1) hat d (List.mem_cons_of_mem _ hd)
  have hfit : Fit s := fun {y c} hc i hi => by
    obtain ⟨ha, rfl⟩ := Array.getElem?_eq_some_iff.mp hc
    have q := List.all_eq_true.mp ((Array.all_eq_true_iff_forall_mem.mp hF) _ (Array.getElem_mem ha)) i (List.mem_range.mpr hi)
    simpa [Array.getElem?_eq_getElem hi] using q
  obtain ⟨i0, ei0⟩ := is_v ga0
  obtain rfl : w0 = (.int i0) := Option.some.inj ei0
  obtain ⟨i1, ei1⟩ := is_v ga1
  obtain rfl : w1 = (.int i1) := Option.some.inj ei1
  obtain ⟨c_aV, r0⟩ := and_e hn
  obtain ⟨c_eV, r1⟩ := and_e r0
  obtain ⟨c_lV, r2⟩ := and_e r1
  obtain ⟨c_e0, r3⟩ := and_e r2
  obtain ⟨c_x0, r4⟩ := and_e r3
  obtain ⟨c_e1, r5⟩ := and_e r4
  obtain ⟨c_x1, r6⟩ := and_e r5
  obtain ⟨c_e2, r7⟩ := and_e r6
  obtain ⟨c_x2, r8⟩ := and_e r7
  obtain ⟨c_e3, r9⟩ := and_e r8
  obtain ⟨c_x3, r10⟩ := and_e r9
  obtain ⟨c_e4, r11⟩ := and_e r10
  obtain ⟨c_x4, r12⟩ := and_e r11
  obtain ⟨c_o0, r13⟩ := and_e r12
  obtain ⟨c_o1, r14⟩ := and_e r13
  obtain ⟨c_o2, r15⟩ := and_e r14
  obtain ⟨c_o3, r16⟩ := and_e r15
  have c_o4 := r16
  obtain ⟨u0, ev0⟩ := exa_v c_e0
  have E0 := Exa.start ev0 c_e0
  have S0 := Sta.start ev0 (Or.inr ⟨(hw _ (List.mem_of_getElem? (i := 2) rfl)), (hw _ (List.mem_of_getElem? (i := 16) rfl))⟩)
  have O0 := Fld.start ((fld_at ev0).symm.trans (Cond.eq_int (n := 0) (beq_iff_eq.mpr c_o0) rfl))
  obtain ⟨u1, ev1⟩ := exa_v c_e1
  have E1 := Exa.start ev1 c_e1
  have S1 := Sta.start ev1 (Or.inr ⟨(hw _ (List.mem_of_getElem? (i := 2) rfl)), (hw _ (List.mem_of_getElem? (i := 17) rfl))⟩)
  have O1 := Fld.start ((fld_at ev1).symm.trans (Cond.eq_int (n := 1) (beq_iff_eq.mpr c_o1) rfl))
  obtain ⟨u2, ev2⟩ := exa_v c_e2
  have E2 := Exa.start ev2 c_e2
  have S2 := Sta.start ev2 (Or.inr ⟨(hw _ (List.mem_of_getElem? (i := 2) rfl)), (hw _ (List.mem_of_getElem? (i := 18) rfl))⟩)
  have O2 := Fld.start ((fld_at ev2).symm.trans (Cond.eq_int (n := 2) (beq_iff_eq.mpr c_o2) rfl))
  obtain ⟨u3, ev3⟩ := exa_v c_e3
  have E3 := Exa.start ev3 c_e3
  have S3 := Sta.start ev3 (Or.inr ⟨(hw _ (List.mem_of_getElem? (i := 2) rfl)), (hw _ (List.mem_of_getElem? (i := 19) rfl))⟩)
  have O3 := Fld.start ((fld_at ev3).symm.trans (Cond.eq_int (n := 3) (beq_iff_eq.mpr c_o3) rfl))
  obtain ⟨u4, ev4⟩ := exa_v c_e4
  have E4 := Exa.start ev4 c_e4
  have S4 := Sta.start ev4 (Or.inr ⟨(hw _ (List.mem_of_getElem? (i := 2) rfl)), (hw _ (List.mem_of_getElem? (i := 20) rfl))⟩)
  have O4 := Fld.start ((fld_at ev4).symm.trans (Cond.eq_int (n := 4) (beq_iff_eq.mpr c_o4) rfl))
  obtain ⟨uv, evV⟩ := exa_v c_eV
  have EV := Exa.start evV c_eV
  have SV := Sta.start evV (Or.inr ⟨(hw _ (List.mem_of_getElem? (i := 2) rfl)), (hw _ (List.mem_of_getElem? (i := 8) rfl))⟩)
  obtain ⟨clV, AV⟩ := Arr.start evV c_aV
  have lenV := Cond.eq_int (n := 5) (beq_iff_eq.mpr c_lV) rfl
  have h31 := SBG.length_lt evV (AV.fin (Vm.Alike.refl _)) lenV
  have eL : clV.slots.size.toInt32 = 5 := Value.int.inj (Option.some.inj ((len_f evV (AV.fin (Vm.Alike.refl _)) h31).symm.trans lenV))
  have x0 := (elem_in (own_eqref c_x0 ev0) evV rfl AV.1).2
  have x1 := (elem_in (own_eqref c_x1 ev1) evV rfl AV.1).2
  have x2 := (elem_in (own_eqref c_x2 ev2) evV rfl AV.1).2
  have x3 := (elem_in (own_eqref c_x3 ev3) evV rfl AV.1).2
  have x4 := (elem_in (own_eqref c_x4 ev4) evV rfl AV.1).2
  have VV : Arv s s.heap uv clV.cls (.object "org/driftsieve/ItemRecord$Unselected$Kind") (5 : Int32) [(.ref u0), (.ref u1), (.ref u2), (.ref u3), (.ref u4)] .null := Arv.start hfit AV h31 eL (by decide) rfl ⟨x0, x1, x2, x3, x4, trivial⟩
  obtain ⟨n, o, h1, h2, h3, _, L, rfl, ⟨rfl, N⟩, hq⟩ := rm0 l s _ hw tables_1 i0 i1 clV.cls uv u0 u1 u2 u3 u4 s.heap s.heap.size (Nat.le_refl _) SV EV VV S0 S1 S2 S3 S4 O0 O1 O2 O3 O4 E0 E1 E2 E3 E4 p e ha hc hk s m _ below hf ((Spec.applies_iff_loose hf).mp happ).1 ⟨rfl, State.Warmed39.refl s, rfl⟩ trivial
  refine ⟨n, _, h1, h2, h3, hpost _ _ _ _ _ _ ⟨Cond.after_iff.mpr rfl, Cond.after_iff.mpr (eq_i res_at (Term.int_eval (1)) rfl), trivial⟩ ⟨hq.1, hq.2.1, (hq.2.2.sift fun y hy => Or.inr (N y hy)).mono (by decide) (by decide)⟩⟩
theorem main_1_1 : Claimed_1_1 := comes_1 fun _ _ _ _ _ _ h hF => ⟨h.1, hF⟩
theorem main_1_2 : Claimed_1_2 := comes_1 fun _ _ _ _ _ _ h hF => ⟨h.2.1, hF⟩
end Jvm.Pilot.@@N@@
namespace Jvm.Pilot.@@N@@
open Jvm Jvm.ClassFile Sem Op Lib Jvm.Free Jvm.Stand Jvm.Pilot.@@N@@.Jvm.D
/-! MADE BY PROGRAM (witnessworld.py) out of the Statement's table words and the real class files: 13 classes; the members and pool entries that the words name. The judged class is class 1, her method 2. -/
namespace start1
open Jvm.ClassFile
def u (s : String) : CpInfo := .utf8 (stringToUtf16 s)
/-- a pool by its gaps: so many unusable entries, then the entry; so many at the end -/
def gap : Nat → List CpInfo → List CpInfo
  | 0, r => r
  | n + 1, r => .unusable :: gap n r
def poolList (es : List (Nat × CpInfo)) (last : Nat) : List CpInfo := es.foldr (fun e r => gap e.1 (e.2 :: r)) (gap last [])
def pool (es : List (Nat × CpInfo)) (last : Nat) : Array CpInfo := ⟨poolList es last⟩
def fileOf (pool : Array CpInfo) (this : Nat) (attrs : Array Attribute := #[]) (ms : Array MethodInfo := #[]) (fl : Nat := 33) (sup : Nat := 0) (ifs : Array Nat := #[]) (fds : Array FieldInfo := #[]) : ClassFile where
  minorVersion := 0
  majorVersion := 65
  constantPool := pool
  accessFlags := fl
  thisClass := this
  superClass := sup
  interfaces := ifs
  fields := fds
  methods := ms
  attributes := attrs
def plain (name : String) (sup : Option ClassId) : Class where
  name := name
  kind := .ordinary
  loader := none
  accessFlags := 33
  super := sup
  interfaces := #[]
  cf := none
  fields := #[]
  methods := #[]
  instanceTypes := #[]
  staticTypes := #[]
  resolved := #[]
  callSites := []
  init := .initialized
  statics := none
  mirror := none

def pool0 : Array CpInfo := pool [(5, u "<init>"), (0, u "()V"), (1, .class_ 10), (1, u "java/lang/Object"), (85, u "clone"), (0, u "()Ljava/lang/Object;")] 26

def k0m0 : Method := { name := "<init>", desc := "()V", sig := { parameters := [], returnType := none }, accessFlags := 1, code := none }
def k0m1 : Method := { name := "clone", desc := "()Ljava/lang/Object;", sig := { parameters := [], returnType := some (.object "java/lang/Object") }, accessFlags := 260, code := none }
/-- java/lang/Object -/
def k0 : Class := { plain "java/lang/Object" none with
  accessFlags := 33
  interfaces := #[]
  cf := some (fileOf pool0 8 #[] #[{ accessFlags := 1, nameIndex := 5, descriptorIndex := 6, attributes := #[] }, { accessFlags := 260, nameIndex := 96, descriptorIndex := 97, attributes := #[] }] 33 0 #[] #[])
  fields := #[]
  methods := #[k0m0, k0m1]
  instanceTypes := #[]
  staticTypes := #[]
  resolved := Array.replicate 124 none
  statics := none }

def pool1 : Array CpInfo := pool [(2, .class_ 4), (1, u "java/lang/Object"), (0, u "<init>"), (0, u "()V"), (0, .fieldref 8 9), (0, .class_ 10), (0, .nameAndType 11 12), (0, u "org/driftsieve/ItemRecord$Unselected$Kind"), (0, u "NOT_SELECTED"), (0, u "Lorg/driftsieve/ItemRecord$Unselected$Kind;"), (0, .fieldref 8 14), (0, .nameAndType 15 12), (0, u "DELETION"), (0, .fieldref 8 17), (0, .nameAndType 18 12), (0, u "UNDECIDED"), (0, .fieldref 8 20), (0, .nameAndType 21 12), (0, u "BOUND_DELETION"), (0, .fieldref 8 23), (0, .nameAndType 24 12), (0, u "NOT_REACHED"), (0, .methodref 8 26), (0, .nameAndType 27 28), (0, u "of"), (0, u "(I)Lorg/driftsieve/ItemRecord$Unselected$Kind;"), (0, .methodref 30 31), (0, .class_ 32), (0, .nameAndType 33 28), (0, u "org/driftsieve/KindOfPinLaw"), (0, u "expected"), (0, .methodref 8 35), (0, .nameAndType 36 37), (0, u "code"), (0, u "()I"), (3, u "law"), (0, u "(II)Z")] 9

def k1m0 : Method := { name := "<init>", desc := "()V", sig := { parameters := [], returnType := none }, accessFlags := 2, code := none }
def k1c1 : Code := { maxStack := 2, maxLocals := 1, code := method_2_code, exceptionTable := #[], attributes := #[] }
def k1m1 : Method := { name := "expected", desc := "(I)Lorg/driftsieve/ItemRecord$Unselected$Kind;", sig := { parameters := [.int], returnType := some (.object "org/driftsieve/ItemRecord$Unselected$Kind") }, accessFlags := 10, code := some k1c1 }
def k1c2 : Code := { maxStack := 2, maxLocals := 6, code := code, exceptionTable := #[], attributes := #[] }
def k1m2 : Method := { name := "law", desc := "(II)Z", sig := { parameters := [.int, .int], returnType := some .boolean }, accessFlags := 9, code := some k1c2 }
/-- org/driftsieve/KindOfPinLaw -/
def k1 : Class := { plain "org/driftsieve/KindOfPinLaw" (some 0) with
  accessFlags := 49
  interfaces := #[]
  cf := some (fileOf pool1 30 #[] #[{ accessFlags := 2, nameIndex := 5, descriptorIndex := 6, attributes := #[] }, { accessFlags := 10, nameIndex := 33, descriptorIndex := 28, attributes := #[] }, { accessFlags := 9, nameIndex := 41, descriptorIndex := 42, attributes := #[] }] 49 2 #[] #[])
  fields := #[]
  methods := #[k1m0, k1m1, k1m2]
  instanceTypes := #[]
  staticTypes := #[]
  resolved := Array.replicate 52 none
  statics := none }

def pool2 : Array CpInfo := pool [(1, .class_ 2), (0, u "java/lang/constant/Constable"), (0, .class_ 4), (0, u "java/lang/Object")] 6

/-- java/lang/constant/Constable -/
def k2 : Class := { plain "java/lang/constant/Constable" (some 0) with
  accessFlags := 1537
  interfaces := #[]
  cf := some (fileOf pool2 1 #[] #[] 1537 3 #[] #[])
  fields := #[]
  methods := #[]
  instanceTypes := #[]
  staticTypes := #[]
  resolved := Array.replicate 11 none
  statics := none }

def pool3 : Array CpInfo := pool [(1, .class_ 2), (0, u "java/lang/Comparable"), (0, .class_ 4), (0, u "java/lang/Object")] 7

/-- java/lang/Comparable -/
def k3 : Class := { plain "java/lang/Comparable" (some 0) with
  accessFlags := 1537
  interfaces := #[]
  cf := some (fileOf pool3 1 #[] #[] 1537 3 #[] #[])
  fields := #[]
  methods := #[]
  instanceTypes := #[]
  staticTypes := #[]
  resolved := Array.replicate 12 none
  statics := none }

def pool4 : Array CpInfo := pool [(1, .class_ 2), (0, u "java/io/Serializable"), (0, .class_ 4), (0, u "java/lang/Object")] 2

/-- java/io/Serializable -/
def k4 : Class := { plain "java/io/Serializable" (some 0) with
  accessFlags := 1537
  interfaces := #[]
  cf := some (fileOf pool4 1 #[] #[] 1537 3 #[] #[])
  fields := #[]
  methods := #[]
  instanceTypes := #[]
  staticTypes := #[]
  resolved := Array.replicate 7 none
  statics := none }

def pool5 : Array CpInfo := pool [(2, .class_ 4), (1, u "java/lang/Enum"), (0, u "name"), (0, u "Ljava/lang/String;"), (2, u "ordinal"), (0, u "I"), (1, .class_ 14), (1, u "java/lang/Object"), (4, u "hash"), (86, .class_ 108), (1, u "java/lang/Enum$EnumDesc"), (2, .class_ 112), (0, u "java/lang/constant/Constable"), (0, .class_ 114), (0, u "java/lang/Comparable"), (0, .class_ 116), (0, u "java/io/Serializable")] 87

/-- java/lang/Enum -/
def k5 : Class := { plain "java/lang/Enum" (some 0) with
  accessFlags := 1057
  interfaces := #[2, 3, 4]
  cf := some (fileOf pool5 2 #[.nestMembers #[106]] #[] 1057 12 #[111, 113, 115] #[{ accessFlags := 18, nameIndex := 5, descriptorIndex := 6, attributes := #[] }, { accessFlags := 18, nameIndex := 9, descriptorIndex := 10, attributes := #[] }, { accessFlags := 2, nameIndex := 19, descriptorIndex := 10, attributes := #[] }])
  fields := #[{ name := "name", type := (.object "java/lang/String"), accessFlags := 18, slot := 0, constantValue := 0 }, { name := "ordinal", type := .int, accessFlags := 18, slot := 1, constantValue := 0 }, { name := "hash", type := .int, accessFlags := 2, slot := 2, constantValue := 0 }]
  methods := #[]
  instanceTypes := #[(.object "java/lang/String"), .int, .int]
  staticTypes := #[]
  resolved := Array.replicate 204 none
  statics := none }

def pool6 : Array CpInfo := pool [(1, .class_ 2), (0, u "org/driftsieve/ItemRecord$Unselected$Kind"), (2, u "NOT_SELECTED"), (0, u "Lorg/driftsieve/ItemRecord$Unselected$Kind;"), (2, u "DELETION"), (2, u "UNDECIDED"), (2, u "BOUND_DELETION"), (2, u "NOT_REACHED"), (0, .fieldref 1 20), (0, .nameAndType 21 22), (0, u "$VALUES"), (0, u "[Lorg/driftsieve/ItemRecord$Unselected$Kind;"), (0, .methodref 24 25), (0, .class_ 22), (0, .nameAndType 26 27), (0, u "clone"), (0, u "()Ljava/lang/Object;"), (1, .class_ 31), (1, u "java/lang/Enum"), (6, .fieldref 1 39), (0, .nameAndType 40 41), (0, u "code"), (0, u "I"), (0, .methodref 1 43), (0, .nameAndType 44 45), (0, u "values"), (0, u "()[Lorg/driftsieve/ItemRecord$Unselected$Kind;"), (17, u "of"), (0, u "(I)Lorg/driftsieve/ItemRecord$Unselected$Kind;"), (1, u "()I"), (8, .class_ 76), (0, u "org/driftsieve/ItemRecord")] 5

def k6c0 : Code := { maxStack := 1, maxLocals := 0, code := prog_13_method_1_code, exceptionTable := #[], attributes := #[] }
def k6m0 : Method := { name := "values", desc := "()[Lorg/driftsieve/ItemRecord$Unselected$Kind;", sig := { parameters := [], returnType := some (.array (.object "org/driftsieve/ItemRecord$Unselected$Kind")) }, accessFlags := 9, code := some k6c0 }
def k6c1 : Code := { maxStack := 2, maxLocals := 5, code := prog_13_method_4_code, exceptionTable := #[], attributes := #[] }
def k6m1 : Method := { name := "of", desc := "(I)Lorg/driftsieve/ItemRecord$Unselected$Kind;", sig := { parameters := [.int], returnType := some (.object "org/driftsieve/ItemRecord$Unselected$Kind") }, accessFlags := 8, code := some k6c1 }
def k6c2 : Code := { maxStack := 1, maxLocals := 1, code := prog_13_method_5_code, exceptionTable := #[], attributes := #[] }
def k6m2 : Method := { name := "code", desc := "()I", sig := { parameters := [], returnType := some .int }, accessFlags := 0, code := some k6c2 }
/-- org/driftsieve/ItemRecord$Unselected$Kind -/
def k6 : Class := { plain "org/driftsieve/ItemRecord$Unselected$Kind" (some 5) with
  accessFlags := 16432
  interfaces := #[]
  cf := some (fileOf pool6 1 #[.nestHost 75] #[{ accessFlags := 9, nameIndex := 44, descriptorIndex := 45, attributes := #[] }, { accessFlags := 8, nameIndex := 63, descriptorIndex := 64, attributes := #[] }, { accessFlags := 0, nameIndex := 40, descriptorIndex := 66, attributes := #[] }] 16432 29 #[] #[{ accessFlags := 16409, nameIndex := 5, descriptorIndex := 6, attributes := #[] }, { accessFlags := 16409, nameIndex := 9, descriptorIndex := 6, attributes := #[] }, { accessFlags := 16409, nameIndex := 12, descriptorIndex := 6, attributes := #[] }, { accessFlags := 16409, nameIndex := 15, descriptorIndex := 6, attributes := #[] }, { accessFlags := 16409, nameIndex := 18, descriptorIndex := 6, attributes := #[] }, { accessFlags := 18, nameIndex := 40, descriptorIndex := 41, attributes := #[] }, { accessFlags := 4122, nameIndex := 21, descriptorIndex := 22, attributes := #[] }])
  fields := #[{ name := "NOT_SELECTED", type := (.object "org/driftsieve/ItemRecord$Unselected$Kind"), accessFlags := 16409, slot := 0, constantValue := 0 }, { name := "DELETION", type := (.object "org/driftsieve/ItemRecord$Unselected$Kind"), accessFlags := 16409, slot := 1, constantValue := 0 }, { name := "UNDECIDED", type := (.object "org/driftsieve/ItemRecord$Unselected$Kind"), accessFlags := 16409, slot := 2, constantValue := 0 }, { name := "BOUND_DELETION", type := (.object "org/driftsieve/ItemRecord$Unselected$Kind"), accessFlags := 16409, slot := 3, constantValue := 0 }, { name := "NOT_REACHED", type := (.object "org/driftsieve/ItemRecord$Unselected$Kind"), accessFlags := 16409, slot := 4, constantValue := 0 }, { name := "code", type := .int, accessFlags := 18, slot := 3, constantValue := 0 }, { name := "$VALUES", type := (.array (.object "org/driftsieve/ItemRecord$Unselected$Kind")), accessFlags := 4122, slot := 5, constantValue := 0 }]
  methods := #[k6m0, k6m1, k6m2]
  instanceTypes := #[(.object "java/lang/String"), .int, .int, .int]
  staticTypes := #[(.object "org/driftsieve/ItemRecord$Unselected$Kind"), (.object "org/driftsieve/ItemRecord$Unselected$Kind"), (.object "org/driftsieve/ItemRecord$Unselected$Kind"), (.object "org/driftsieve/ItemRecord$Unselected$Kind"), (.object "org/driftsieve/ItemRecord$Unselected$Kind"), (.array (.object "org/driftsieve/ItemRecord$Unselected$Kind"))]
  resolved := Array.replicate 82 none
  statics := some 0 }

def pool7 : Array CpInfo := pool [(1, .class_ 2), (0, u "java/lang/Cloneable"), (0, .class_ 4), (0, u "java/lang/Object")] 2

/-- java/lang/Cloneable -/
def k7 : Class := { plain "java/lang/Cloneable" (some 0) with
  accessFlags := 1537
  interfaces := #[]
  cf := some (fileOf pool7 1 #[] #[] 1537 3 #[] #[])
  fields := #[]
  methods := #[]
  instanceTypes := #[]
  staticTypes := #[]
  resolved := Array.replicate 7 none
  statics := none }

/-- the primitive byte -/
def k8 : Class := { plain "byte" none with kind := .primitive 'B', accessFlags := 0x411 }
/-- [B -/
def k9 : Class := { plain "[B" (some 0) with kind := .array 8 .byte, interfaces := #[7, 4], accessFlags := 1041 }

/-- the primitive int -/
def k10 : Class := { plain "int" none with kind := .primitive 'I', accessFlags := 0x411 }
/-- [I -/
def k11 : Class := { plain "[I" (some 0) with kind := .array 10 .int, interfaces := #[7, 4], accessFlags := 1041 }

/-- [Lorg/driftsieve/ItemRecord$Unselected$Kind; -/
def k12 : Class := { plain "[Lorg/driftsieve/ItemRecord$Unselected$Kind;" (some 0) with kind := .array 6 (.object "org/driftsieve/ItemRecord$Unselected$Kind"), interfaces := #[7, 4], accessFlags := 1041 }

def heap : Heap := #[{ cls := 6, slots := #[.ref 2, .ref 3, .ref 4, .ref 5, .ref 6, .ref 1], vm := .statics 6 },
  { cls := 12, slots := #[.ref 2, .ref 3, .ref 4, .ref 5, .ref 6], vm := .none },
  { cls := 6, slots := #[.null, .int 0, .int 0, .int 0], vm := .none },
  { cls := 6, slots := #[.null, .int 1, .int 0, .int 1], vm := .none },
  { cls := 6, slots := #[.null, .int 2, .int 0, .int 2], vm := .none },
  { cls := 6, slots := #[.null, .int 3, .int 0, .int 3], vm := .none },
  { cls := 6, slots := #[.null, .int 4, .int 0, .int 4], vm := .none }]
def classes : Array Class := #[k0, k1, k2, k3, k4, k5, k6, k7, k8, k9, k10, k11, k12]
def interned : List (Array UInt16 × Addr) := []
def slotsUsed : Nat := 31
def theMethod : MethodId := ⟨1, 2⟩
def args0 : Array Value := #[.int 5, .int 5]
def aboutOver (below : List Frame) : State where
  vm := { classes := classes, interned := interned.toArray }
  heap := heap
  slotsUsed := slotsUsed
  threads := #[{ frames := .invoking theMethod args0 :: below }]
def below0 : List Frame := [.native { method := ⟨0, 0⟩, args := #[] }]
def about1 : State := aboutOver below0
def p0 : Program := .bare "" "" ""
def e0 : Env := launch0.env 0 0 0
theorem w_frames : about1.frames = Frame.invoking theMethod args0 :: below0 := rfl
set_option maxRecDepth 65536 in
theorem w_args : argsFit about1.vm theMethod args0 = true := by decide +kernel
set_option maxRecDepth 65536 in
theorem w_heap : heapFits about1 = true := by decide +kernel
set_option maxRecDepth 65536 in
theorem w_runnable : about1.curStatus? = some .runnable := by decide +kernel
set_option maxRecDepth 65536 in
theorem w_alone : about1.alone = true := by decide +kernel
set_option maxRecDepth 65536 in
theorem w_named : about1.methodNamed? x = some theMethod := by decide +kernel
set_option maxRecDepth 65536 in
theorem w_hears : about1.hears theMethod below0 = true := by decide +kernel
set_option maxRecDepth 65536 in
theorem w_ripe : about1.ripe theMethod args0 below0 = true := by decide +kernel
theorem w_running : about1.status = .running := rfl
set_option maxRecDepth 65536 in
theorem w_room : about1.hasRoom e0.platform room_1 = true :=
  launch0.hasRoom_least _ room_1 (by decide +kernel) (by decide +kernel) (by decide +kernel) (by decide +kernel) (by decide +kernel) (by decide +kernel)
theorem allAtoms_all (ts : List Jvm.Cond) (a : Array Jvm.Value) (st : Jvm.State) : (allAtoms ts).before a st = ts.all (fun c => c.before a st) := by
  induction ts with
  | nil => rfl
  | cons c t ih =>
    show (Jvm.Cond.and c (allAtoms t)).before a st = _
    rw [Jvm.Cond.before_and, ih, List.all_cons]
def words1 : List Jvm.Cond := Jvm.Cond.code x code maxLocals ret :: tables_1
/-- a 'code' word, met by the world's own term for the bytes: nothing is compared byte by byte -/
theorem code_word {y : MethodName} {bytes : ByteArray} {mx : Nat} {rt : Option FieldType} {a : Array Value} {s : State} {m : MethodId} {meth : Method} {c : Code} (h1 : s.methodNamed? y = some m) (h2 : s.vm.method? m = some meth) (h3 : meth.code = some c) (h4 : c.code = bytes)
    (h5 : (c.maxLocals == mx && c.exceptionTable.isEmpty && decide (c.maxStack ≤ mostOperands) && decide (meth.sig.returnType = rt) && !meth.locks && decide (parseMethodDescriptor y.desc = some meth.sig)) = true) : (Jvm.Cond.code y bytes mx rt).before a s = true := by
  simp only [Bool.and_eq_true, beq_iff_eq, Bool.not_eq_true', decide_eq_true_eq] at h5
  obtain ⟨⟨⟨⟨⟨g1, g2⟩, g3⟩, g4⟩, g5⟩, g6⟩ := h5
  simp [Cond.before, Cond.holds, Cond.value, h1, h2, h3, h4, g1, g2, g3, g4, g5, g6]
def isCode : Jvm.Cond → Bool
  | .code _ _ _ _ => true
  | _ => false
theorem all_split {L : List Jvm.Cond} {P : Jvm.Cond → Bool} (h1 : L.all (fun c => isCode c || P c) = true) (h2 : ∀ c ∈ L.filter isCode, P c = true) : L.all P = true := by
  refine List.all_eq_true.mpr fun c hc => ?_
  have h := List.all_eq_true.mp h1 c hc
  rcases Bool.eq_false_or_eq_true (isCode c) with hi | hi
  · exact h2 c (List.mem_filter.mpr ⟨hc, hi⟩)
  · simpa [hi] using h
set_option maxRecDepth 65536 in
theorem w_c0 : (Jvm.Cond.code x code maxLocals ret).before args0 about1 = true := code_word (m := ⟨1, 2⟩) (meth := k1m2) (c := k1c2) (by decide +kernel) rfl rfl rfl (by decide +kernel)
set_option maxRecDepth 65536 in
theorem w_c1 : (Jvm.Cond.code ({ cls := "org/driftsieve/ItemRecord$Unselected$Kind", name := "of", desc := "(I)Lorg/driftsieve/ItemRecord$Unselected$Kind;" } : Jvm.MethodName) prog_13_method_4_code (5 : Nat) (Option.some (Jvm.ClassFile.FieldType.object "org/driftsieve/ItemRecord$Unselected$Kind"))).before args0 about1 = true := code_word (m := ⟨6, 1⟩) (meth := k6m1) (c := k6c1) (by decide +kernel) rfl rfl rfl (by decide +kernel)
set_option maxRecDepth 65536 in
theorem w_c2 : (Jvm.Cond.code ({ cls := "org/driftsieve/ItemRecord$Unselected$Kind", name := "values", desc := "()[Lorg/driftsieve/ItemRecord$Unselected$Kind;" } : Jvm.MethodName) prog_13_method_1_code (0 : Nat) (Option.some (Jvm.ClassFile.FieldType.array (Jvm.ClassFile.FieldType.object "org/driftsieve/ItemRecord$Unselected$Kind")))).before args0 about1 = true := code_word (m := ⟨6, 0⟩) (meth := k6m0) (c := k6c0) (by decide +kernel) rfl rfl rfl (by decide +kernel)
set_option maxRecDepth 65536 in
theorem w_c3 : (Jvm.Cond.code ({ cls := "org/driftsieve/KindOfPinLaw", name := "expected", desc := "(I)Lorg/driftsieve/ItemRecord$Unselected$Kind;" } : Jvm.MethodName) method_2_code (1 : Nat) (Option.some (Jvm.ClassFile.FieldType.object "org/driftsieve/ItemRecord$Unselected$Kind"))).before args0 about1 = true := code_word (m := ⟨1, 1⟩) (meth := k1m1) (c := k1c1) (by decide +kernel) rfl rfl rfl (by decide +kernel)
set_option maxRecDepth 65536 in
theorem w_c4 : (Jvm.Cond.code ({ cls := "org/driftsieve/ItemRecord$Unselected$Kind", name := "code", desc := "()I" } : Jvm.MethodName) prog_13_method_5_code (1 : Nat) (Option.some Jvm.ClassFile.FieldType.int)).before args0 about1 = true := code_word (m := ⟨6, 2⟩) (meth := k6m2) (c := k6c2) (by decide +kernel) rfl rfl rfl (by decide +kernel)
def codes1 : List Jvm.Cond := [Jvm.Cond.code x code maxLocals ret, Jvm.Cond.code ({ cls := "org/driftsieve/ItemRecord$Unselected$Kind", name := "of", desc := "(I)Lorg/driftsieve/ItemRecord$Unselected$Kind;" } : Jvm.MethodName) prog_13_method_4_code (5 : Nat) (Option.some (Jvm.ClassFile.FieldType.object "org/driftsieve/ItemRecord$Unselected$Kind")), Jvm.Cond.code ({ cls := "org/driftsieve/ItemRecord$Unselected$Kind", name := "values", desc := "()[Lorg/driftsieve/ItemRecord$Unselected$Kind;" } : Jvm.MethodName) prog_13_method_1_code (0 : Nat) (Option.some (Jvm.ClassFile.FieldType.array (Jvm.ClassFile.FieldType.object "org/driftsieve/ItemRecord$Unselected$Kind"))), Jvm.Cond.code ({ cls := "org/driftsieve/KindOfPinLaw", name := "expected", desc := "(I)Lorg/driftsieve/ItemRecord$Unselected$Kind;" } : Jvm.MethodName) method_2_code (1 : Nat) (Option.some (Jvm.ClassFile.FieldType.object "org/driftsieve/ItemRecord$Unselected$Kind")), Jvm.Cond.code ({ cls := "org/driftsieve/ItemRecord$Unselected$Kind", name := "code", desc := "()I" } : Jvm.MethodName) prog_13_method_5_code (1 : Nat) (Option.some Jvm.ClassFile.FieldType.int)]
set_option maxRecDepth 65536 in
theorem codes_eq : words1.filter isCode = codes1 := rfl
theorem w_codes : ∀ c ∈ words1.filter isCode, c.before args0 about1 = true := by
  rw [codes_eq]
  intro c hc
  simp only [codes1, List.mem_cons, List.not_mem_nil, or_false] at hc
  rcases hc with rfl | rfl | rfl | rfl | rfl
  · exact w_c0
  · exact w_c1
  · exact w_c2
  · exact w_c3
  · exact w_c4
set_option maxRecDepth 65536 in
theorem w_t1 : (words1.take 24).all (fun c => isCode c || c.before args0 about1) = true := by decide +kernel
set_option maxRecDepth 65536 in
theorem w_t2 : (words1.drop 24).all (fun c => isCode c || c.before args0 about1) = true := by decide +kernel
theorem w_tables : (allAtoms (Jvm.Cond.code x code maxLocals ret :: tables_1)).before args0 about1 = true := by
  rw [allAtoms_all]
  show words1.all (fun c => c.before args0 about1) = true
  refine all_split ?_ w_codes
  rw [← List.take_append_drop 24 words1, List.all_append, w_t1, w_t2]
  rfl
set_option maxRecDepth 65536 in
theorem w_case : (Jvm.Cond.and given_1 narrow_1).before args0 about1 = true := by decide +kernel
theorem w_applies : (headSpec (Jvm.Cond.code x code maxLocals ret :: tables_1) room_1).applies x e0.platform about1 = true :=
  (Spec.applies_iff w_frames).mpr ⟨w_running, w_runnable, w_alone, w_named, w_hears, w_ripe, w_room, w_tables⟩
theorem atStart : AtStart classFile x code maxLocals ret World_1 tables_1 room_1 Calls_1 rest_1 Pre_1 launch0 p0 e0 about1 theMethod args0 below0 :=
  ⟨lists_1, trivial, launch0.admits_env _ _ _, launch0.least_env, fairChoices_fair.cas, fairChoices_fair.clock, w_frames, w_args, w_heap, w_applies, trivial, trivial, w_case⟩
end start1
theorem witness_1 : WitnessClaimed_1 := ⟨start1.p0, start1.e0, start1.about1, start1.theMethod, start1.args0, start1.below0, start1.atStart⟩
end Jvm.Pilot.@@N@@
