import JvmDerived
import JvmDerived.Pilot.@@N@@Statement
import JvmDerived.Pilot.@@N@@Code
set_option linter.unusedVariables false
set_option linter.unusedSimpArgs false
namespace Jvm.RoadKit
open Sem ClassFile Op Lib Jvm.Stand Jvm.Free Jvm.LawKit
section New
variable {p : Program} {l : Launch} {e : Env} {R : Room} {s : State} {m : MethodId} {args : Array Value} {below : List Frame} {meth : Method} {c : Code} {T : State} {locs : List Loc} {cells slots : Nat}
theorem own_retI (X : Stand p l e R s m args below meth c T locs cells slots) (hx : p.tables.exec = Jvm.exec) {pc : Nat} {Ls : Array Slot} {z : Int32} {rest : List Value} (hret : meth.sig.returnType = some .int) (hd : decode c.code pc = .ok (.ireturn, 1)) {fs : List Frame}
    (hl : ∀ (f : JFrame) (acts : List Action), f.method = m → f.locked = none → f.entered = [] → (doReturn e (T.setTop f) acts (some (.int z))).1 = T.setFrames fs) : Steps p.tables e below (T.setTop (mkF m pc Ls (.int z :: rest))) (T.setFrames fs) :=
  retOut X hx hret rfl (Or.inl ⟨rfl, Or.inl rfl, z, rfl⟩) hd hl
theorem own_retL (X : Stand p l e R s m args below meth c T locs cells slots) (hx : p.tables.exec = Jvm.exec) {pc : Nat} {Ls : Array Slot} {z : Int64} {rest : List Value} (hret : meth.sig.returnType = some .long) (hd : decode c.code pc = .ok (.lreturn, 1)) {fs : List Frame}
    (hl : ∀ (f : JFrame) (acts : List Action), f.method = m → f.locked = none → f.entered = [] → (doReturn e (T.setTop f) acts (some (.long z))).1 = T.setFrames fs) : Steps p.tables e below (T.setTop (mkF m pc Ls (.long z :: rest))) (T.setFrames fs) :=
  retOut X hx hret rfl (Or.inr (Or.inl ⟨rfl, rfl, z, rfl⟩)) hd hl
theorem own_retA (X : Stand p l e R s m args below meth c T locs cells slots) (hx : p.tables.exec = Jvm.exec) {pc : Nat} {Ls : Array Slot} {w : Value} {t : FieldType} {rest : List Value} (hret : meth.sig.returnType = some t) (ht : t.isReference = true) (hw : w.isRef = true) (hn : narrow t w = w) (hd : decode c.code pc = .ok (.areturn, 1)) {fs : List Frame}
    (hl : ∀ (f : JFrame) (acts : List Action), f.method = m → f.locked = none → f.entered = [] → (doReturn e (T.setTop f) acts (some w)).1 = T.setFrames fs) : Steps p.tables e below (T.setTop (mkF m pc Ls (w :: rest))) (T.setFrames fs) :=
  retOut X hx hret hn (Or.inr (Or.inr (Or.inr (Or.inr ⟨rfl, ht, hw⟩)))) hd hl
theorem own_lremM {g : JFrame} {target : State} (X : Stand p l e R s m args below meth c T locs cells slots) (hx : p.tables.exec = Jvm.exec) (hg : g.method = m) {x y : Int64} {rest : List Value} (hd : decode c.code g.pc = .ok (.lrem, 1)) (hs : g.stack = .long y :: .long x :: rest) (hy : y ≠ 0)
    (hr : Steps p.tables e below (T.setTop { g with pc := g.pc + 1, stack := .long (x % y) :: rest }) target) : Steps p.tables e below (T.setTop g) target := by
  have q : x - x / y * y = x % y := lrem_mod x y
  exact XS.lrem X.here hx hg hd hs hy (by rw [q]; exact hr)
theorem own_selp {Z s : State} {a0 args : Array Value} {y : MethodName} {n : Nat} (hZ : Z.Warmed39 s.vm) (wi : (Cond.instantiable y.cls n).before a0 Z = true) (wp : (Cond.privateMethod y).before a0 Z = true) (wm : (Cond.instanceMethod y).before a0 Z = true)
    (hy : y.cls ≠ "java/lang/invoke/MethodHandle" ∧ y.cls ≠ "java/lang/invoke/VarHandle") : (Cond.selects y.cls y y).before args s = true := by
  obtain ⟨c, k, h1, h2, h3, h4, -⟩ := Cond.instantiable_spec (mvT (args := args) hZ wi)
  exact selects_self_of_private h1 h2 (by simp only [Bool.or_eq_false_iff] at h4; exact h4.1) (Cond.privateMethod_at (mvP hZ wp (args := #[]))) (mvT hZ wm) hy
end New
end Jvm.RoadKit
namespace Jvm.Pilot.@@N@@
open Jvm Jvm.ClassFile Sem Op Lib Jvm.Free Jvm.Stand Jvm.LawKit Jvm.RoadKit Bundle Jvm.Pilot.@@N@@.Jvm.D
theorem own_cp (vd vs : List Value) (d : Value) (dp nn sp : Nat) (hl : dp + nn ≤ vd.length) (i : Nat) : (vd.take dp ++ ((List.range nn).map fun j => vs.getD (sp + j) d) ++ vd.drop (dp + nn)).getD i d = if i < dp then vd.getD i d else if i < dp + nn then vs.getD (sp + (i - dp)) d else vd.getD i d := by
  have lt : (vd.take dp).length = dp := by rw [List.length_take]; omega
  simp only [List.getD_eq_getElem?_getD]
  have lu : ((List.range nn).map fun j => vs[sp + j]?.getD d).length = nn := by simp
  by_cases h1 : i < dp
  · rw [if_pos h1, List.append_assoc, List.getElem?_append_left (by omega), List.getElem?_take_of_lt h1]
  · rw [if_neg h1]
    by_cases h2 : i < dp + nn
    · rw [if_pos h2, List.append_assoc, List.getElem?_append_right (by omega), lt, List.getElem?_append_left (by omega)]
      rw [List.getElem?_map, List.getElem?_range (show i - dp < nn by omega)]; simp
    · rw [if_neg h2, List.getElem?_append_right (by rw [List.length_append]; omega), List.length_append, lt, lu, List.getElem?_drop, show dp + nn + (i - (dp + nn)) = i by omega]
theorem own_pad (vs : List Value) (d : Value) (i : Nat) : (vs ++ List.replicate 16 d).getD i d = vs.getD i d := pad_rep vs d 16 i
theorem own_padl (vs : List Value) (d : Value) : 16 ≤ (vs ++ List.replicate 16 d).length := by rw [List.length_append, List.length_replicate]; omega
theorem own_nat {x : Int32} (h : ¬ x < 0) : (x.toNatClampNeg : Int) = x.toInt := (nat_of h).symm
theorem own_set (vs : List Value) (d v : Value) (k i : Nat) (hk : k < vs.length) : (vs.set k v).getD i d = if i = k then v else vs.getD i d := by
  simp only [List.getD_eq_getElem?_getD]
  by_cases h : i = k
  · subst h; rw [if_pos rfl, List.getElem?_set_self hk]; rfl
  · rw [if_neg h, List.getElem?_set_ne (fun q => h q.symm)]
def Q19 (p1 p2 : Int32) (h0 : Heap) (n0 : Nat) (v : Option Value) (h : Heap) (L : List Loc) : Prop := v = some (.int (if p1 < p2 then p2 else p1)) ∧ Fr n0 L ∧ h = h0
theorem d19_0 : decode jdk_29_method_65_code 0 = .ok (.iload_n 0, 1) := by decide +kernel
theorem d19_1 : decode jdk_29_method_65_code 1 = .ok (.iload_n 1, 1) := by decide +kernel
theorem d19_2 : decode jdk_29_method_65_code 2 = .ok (.if_icmp .lt 7, 3) := by decide +kernel
theorem d19_5 : decode jdk_29_method_65_code 5 = .ok (.iload_n 0, 1) := by decide +kernel
theorem d19_6 : decode jdk_29_method_65_code 6 = .ok (.goto 4, 3) := by decide +kernel
theorem d19_9 : decode jdk_29_method_65_code 9 = .ok (.iload_n 1, 1) := by decide +kernel
theorem d19_10 : decode jdk_29_method_65_code 10 = .ok (.ireturn, 1) := by decide +kernel
theorem ef_rm19 (m : MethodId) (x0 : Int32) (x1 : Int32) : entryFrame m #[(.int x0), (.int x1)] 2 = mkF m 0 #[.val (.int x0), .val (.int x1)] [] := by first | (simp [entryFrame, mkF, argsToLocals, Value.category]; done) | rfl
set_option maxRecDepth 65536 in
set_option maxHeartbeats 40000000 in
theorem rm19 (l : Launch) (Z : State) (a0 : Array Value) (hw : ∀ d ∈ tables_1, d.before a0 Z = true) (ws : List Jvm.Cond) (p1 p2 : Int32) (h0 : Heap) (n0 : Nat) (Z0 : n0 ≤ h0.size) :
    MetFree l (⟨"java/lang/Math", "max", "(II)I"⟩ : MethodName) (head1 (Jvm.Cond.code (⟨"java/lang/Math", "max", "(II)I"⟩ : MethodName) jdk_29_method_65_code 2 (some .int) :: ws) ({ frames := 0, cells := 0, slots := 0, locals := 0 } : Room)) (fun a U => a = #[(.int p1), (.int p2)] ∧ Z.Warmed39 U.vm ∧ U.heap = h0) (fun _ _ _ _ _ => True) (fun _ U o U' => ∃ v L, o = .returned v ∧ Q19 p1 p2 h0 n0 v U'.heap L ∧ FrameEnd U o U' L ({ frames := 0, cells := 0, slots := 0, locals := 0 } : Room).cells ({ frames := 0, cells := 0, slots := 0, locals := 0 } : Room).slots) := by
  refine MetFree.of_bodySF (Jvm.Free.JP.mathPlain rfl (by decide +kernel)) hisR ?_
  intro p e s m args below meth c s₁ Bd hml0 hP hK
  obtain ⟨rfl, hZ, hh⟩ := hP
  have hx := Bd.exec
  have hby := Bd.bytes
  have hml : c.maxLocals = 2 := hml0
  have hown : s.vm.findClass "java/lang/Math" = some m.cls := findClass_of_methodNamed Bd.named
  have hnm := (name_of_methodNamed Bd.named Bd.method).1
  have X0 : Stand p l e ({ frames := 0, cells := 0, slots := 0, locals := 0 } : Room) s m #[(.int p1), (.int p2)] below meth c s₁ [] 0 0 := Stand.of_body Bd
  have e0 : s₁.heap = h0 := by rw [← hh, Bd.state]; rfl
  have N0 := Fr.nil n0
  have KP0 : Keep h0 h0 [] := Keep.refl h0 _
  obtain ⟨G, hG⟩ : ∃ G : State, G = s₁.setTop (entryFrame m #[(.int p1), (.int p2)] 2) := ⟨_, rfl⟩
  have pre0 : ∀ t, Steps p.tables e below (s₁.setTop (mkF m 0 #[.val (.int p1), .val (.int p2)] [])) t → Steps p.tables e below G t := fun t k => hG ▸ castTop (ef_rm19 m p1 p2) k
  have K1 : ∀ t, Steps p.tables e below (s₁.setTop (mkF m 2 #[.val (.int p1), .val (.int p2)] [(.int p2), (.int p1)])) t → Steps p.tables e below G t := by
    intro t k
    refine pre0 t ?_
    refine XS.iloadN X0.here hx rfl (hb hby d19_0) rfl ?_
    refine XS.iloadN X0.here hx rfl (hb hby d19_1) rfl ?_
    exact k
  by_cases hc2 : p1 < p2
  · obtain ⟨fs, hr, hrun, hended, hW, hsame⟩ := X0.leave (v := some (.int p2)) (fun h => by rw [Bd.returns] at h; cases h)
    have KF := K1
    rw [hG] at KF
    refine ⟨_, _, KF _ ?_, hrun, hended, _, _, rfl, ?_, ⟨_, rfl⟩, hW, hsame.mono (by decide) (by decide)⟩
    · refine XS.icmpYes X0.here hx rfl (pc0 := 2) (pc' := 9) rfl (hb hby d19_2) rfl (tlt hc2).1 (by decide) (by decide) ?_
      refine XS.iloadN X0.here hx rfl (hb hby d19_9) rfl ?_
      show Steps p.tables e below (s₁.setTop (mkF m 10 #[.val (.int p1), .val (.int p2)] [(.int p2)])) _
      exact own_retI X0 hx Bd.returns (hb hby d19_10) hr
    · show Q19 p1 p2 h0 n0 _ s₁.heap _
      rw [e0]
      exact ⟨by simp only [if_pos hc2], N0, rfl⟩
  · obtain ⟨fs, hr, hrun, hended, hW, hsame⟩ := X0.leave (v := some (.int p1)) (fun h => by rw [Bd.returns] at h; cases h)
    have KF := K1
    rw [hG] at KF
    refine ⟨_, _, KF _ ?_, hrun, hended, _, _, rfl, ?_, ⟨_, rfl⟩, hW, hsame.mono (by decide) (by decide)⟩
    · refine XS.icmpNo X0.here hx rfl (hb hby d19_2) rfl (flt hc2).1 ?_
      refine XS.iloadN X0.here hx rfl (hb hby d19_5) rfl ?_
      refine XS.goto X0.here hx rfl (pc0 := 6) (pc' := 10) rfl (hb hby d19_6) (by decide) (by decide) ?_
      show Steps p.tables e below (s₁.setTop (mkF m 10 #[.val (.int p1), .val (.int p2)] [(.int p1)])) _
      exact own_retI X0 hx Bd.returns (hb hby d19_10) hr
    · show Q19 p1 p2 h0 n0 _ s₁.heap _
      rw [e0]
      exact ⟨by simp only [if_neg hc2], N0, rfl⟩
def Q21 (p1 p2 : Int32) (h0 : Heap) (n0 : Nat) (v : Option Value) (h : Heap) (L : List Loc) : Prop := v = some (.int (if p2 < p1 then p2 else p1)) ∧ Fr n0 L ∧ h = h0
theorem d21_0 : decode jdk_29_method_69_code 0 = .ok (.iload_n 0, 1) := by decide +kernel
theorem d21_1 : decode jdk_29_method_69_code 1 = .ok (.iload_n 1, 1) := by decide +kernel
theorem d21_2 : decode jdk_29_method_69_code 2 = .ok (.if_icmp .gt 7, 3) := by decide +kernel
theorem d21_5 : decode jdk_29_method_69_code 5 = .ok (.iload_n 0, 1) := by decide +kernel
theorem d21_6 : decode jdk_29_method_69_code 6 = .ok (.goto 4, 3) := by decide +kernel
theorem d21_9 : decode jdk_29_method_69_code 9 = .ok (.iload_n 1, 1) := by decide +kernel
theorem d21_10 : decode jdk_29_method_69_code 10 = .ok (.ireturn, 1) := by decide +kernel
theorem ef_rm21 (m : MethodId) (x0 : Int32) (x1 : Int32) : entryFrame m #[(.int x0), (.int x1)] 2 = mkF m 0 #[.val (.int x0), .val (.int x1)] [] := by first | (simp [entryFrame, mkF, argsToLocals, Value.category]; done) | rfl
set_option maxRecDepth 65536 in
set_option maxHeartbeats 40000000 in
theorem rm21 (l : Launch) (Z : State) (a0 : Array Value) (hw : ∀ d ∈ tables_1, d.before a0 Z = true) (ws : List Jvm.Cond) (p1 p2 : Int32) (h0 : Heap) (n0 : Nat) (Z0 : n0 ≤ h0.size) :
    MetFree l (⟨"java/lang/Math", "min", "(II)I"⟩ : MethodName) (head1 (Jvm.Cond.code (⟨"java/lang/Math", "min", "(II)I"⟩ : MethodName) jdk_29_method_69_code 2 (some .int) :: ws) ({ frames := 0, cells := 0, slots := 0, locals := 0 } : Room)) (fun a U => a = #[(.int p1), (.int p2)] ∧ Z.Warmed39 U.vm ∧ U.heap = h0) (fun _ _ _ _ _ => True) (fun _ U o U' => ∃ v L, o = .returned v ∧ Q21 p1 p2 h0 n0 v U'.heap L ∧ FrameEnd U o U' L ({ frames := 0, cells := 0, slots := 0, locals := 0 } : Room).cells ({ frames := 0, cells := 0, slots := 0, locals := 0 } : Room).slots) := by
  refine MetFree.of_bodySF (Jvm.Free.JP.mathPlain rfl (by decide +kernel)) hisR ?_
  intro p e s m args below meth c s₁ Bd hml0 hP hK
  obtain ⟨rfl, hZ, hh⟩ := hP
  have hx := Bd.exec
  have hby := Bd.bytes
  have hml : c.maxLocals = 2 := hml0
  have hown : s.vm.findClass "java/lang/Math" = some m.cls := findClass_of_methodNamed Bd.named
  have hnm := (name_of_methodNamed Bd.named Bd.method).1
  have X0 : Stand p l e ({ frames := 0, cells := 0, slots := 0, locals := 0 } : Room) s m #[(.int p1), (.int p2)] below meth c s₁ [] 0 0 := Stand.of_body Bd
  have e0 : s₁.heap = h0 := by rw [← hh, Bd.state]; rfl
  have N0 := Fr.nil n0
  have KP0 : Keep h0 h0 [] := Keep.refl h0 _
  obtain ⟨G, hG⟩ : ∃ G : State, G = s₁.setTop (entryFrame m #[(.int p1), (.int p2)] 2) := ⟨_, rfl⟩
  have pre0 : ∀ t, Steps p.tables e below (s₁.setTop (mkF m 0 #[.val (.int p1), .val (.int p2)] [])) t → Steps p.tables e below G t := fun t k => hG ▸ castTop (ef_rm21 m p1 p2) k
  have K1 : ∀ t, Steps p.tables e below (s₁.setTop (mkF m 2 #[.val (.int p1), .val (.int p2)] [(.int p2), (.int p1)])) t → Steps p.tables e below G t := by
    intro t k
    refine pre0 t ?_
    refine XS.iloadN X0.here hx rfl (hb hby d21_0) rfl ?_
    refine XS.iloadN X0.here hx rfl (hb hby d21_1) rfl ?_
    exact k
  by_cases hc2 : p2 < p1
  · obtain ⟨fs, hr, hrun, hended, hW, hsame⟩ := X0.leave (v := some (.int p2)) (fun h => by rw [Bd.returns] at h; cases h)
    have KF := K1
    rw [hG] at KF
    refine ⟨_, _, KF _ ?_, hrun, hended, _, _, rfl, ?_, ⟨_, rfl⟩, hW, hsame.mono (by decide) (by decide)⟩
    · refine XS.icmpYes X0.here hx rfl (pc0 := 2) (pc' := 9) rfl (hb hby d21_2) rfl (tlt hc2).2.2.1 (by decide) (by decide) ?_
      refine XS.iloadN X0.here hx rfl (hb hby d21_9) rfl ?_
      show Steps p.tables e below (s₁.setTop (mkF m 10 #[.val (.int p1), .val (.int p2)] [(.int p2)])) _
      exact own_retI X0 hx Bd.returns (hb hby d21_10) hr
    · show Q21 p1 p2 h0 n0 _ s₁.heap _
      rw [e0]
      exact ⟨by simp only [if_pos hc2], N0, rfl⟩
  · obtain ⟨fs, hr, hrun, hended, hW, hsame⟩ := X0.leave (v := some (.int p1)) (fun h => by rw [Bd.returns] at h; cases h)
    have KF := K1
    rw [hG] at KF
    refine ⟨_, _, KF _ ?_, hrun, hended, _, _, rfl, ?_, ⟨_, rfl⟩, hW, hsame.mono (by decide) (by decide)⟩
    · refine XS.icmpNo X0.here hx rfl (hb hby d21_2) rfl (flt hc2).2.2.1 ?_
      refine XS.iloadN X0.here hx rfl (hb hby d21_5) rfl ?_
      refine XS.goto X0.here hx rfl (pc0 := 6) (pc' := 10) rfl (hb hby d21_6) (by decide) (by decide) ?_
      show Steps p.tables e below (s₁.setTop (mkF m 10 #[.val (.int p1), .val (.int p2)] [(.int p1)])) _
      exact own_retI X0 hx Bd.returns (hb hby d21_10) hr
    · show Q21 p1 p2 h0 n0 _ s₁.heap _
      rw [e0]
      exact ⟨by simp only [if_neg hc2], N0, rfl⟩
def Q3 (Z : State) (a1 : Addr) (p2 : Int32) (h0 : Heap) (n0 : Nat) (v : Option Value) (h : Heap) (L : List Loc) : Prop := ∃ (b : Addr) (k : ClassId), v = none ∧ Fr n0 L ∧ Keep h0 h [a1] ∧ h0.size ≤ b ∧ Exa Z h a1 "org/arborlog/pattern/LineText" ∧ Fld Z h a1 "org/arborlog/pattern/LineText" "chars" "[C" (.ref b) ∧ Fld Z h a1 "org/arborlog/pattern/LineText" "length" "I" (.int (0 : Int32)) ∧ Arv Z h b k .char p2 [] (Value.int (0 : Int32))
theorem d3_0 : decode prog_20_method_1_code 0 = .ok (.aload_n 0, 1) := by decide +kernel
theorem d3_1 : decode prog_20_method_1_code 1 = .ok (.invokespecial 1, 3) := by decide +kernel
theorem d3_4 : decode prog_20_method_1_code 4 = .ok (.aload_n 0, 1) := by decide +kernel
theorem d3_5 : decode prog_20_method_1_code 5 = .ok (.iload_n 1, 1) := by decide +kernel
theorem d3_6 : decode prog_20_method_1_code 6 = .ok (.newarray .char, 2) := by decide +kernel
theorem d3_8 : decode prog_20_method_1_code 8 = .ok (.putfield 7, 3) := by decide +kernel
theorem d3_11 : decode prog_20_method_1_code 11 = .ok (.return_, 1) := by decide +kernel
theorem pn_org_arborlog_pattern_LineText : plainName "org/arborlog/pattern/LineText" = true := by first | (simp [plainName, overriddenIn]; done) | decide +kernel
theorem ef_rm3 (m : MethodId) (x0 : Addr) (x1 : Int32) : entryFrame m #[(.ref x0), (.int x1)] 2 = mkF m 0 #[.val (.ref x0), .val (.int x1)] [] := by first | (simp [entryFrame, mkF, argsToLocals, Value.category]; done) | rfl
set_option maxRecDepth 65536 in
set_option maxHeartbeats 40000000 in
theorem rm3 (l : Launch) (Z : State) (a0 : Array Value) (hw : ∀ d ∈ tables_1, d.before a0 Z = true) (ws : List Jvm.Cond) (a1 : Addr) (p2 : Int32) (h0 : Heap) (n0 : Nat) (Z0 : n0 ≤ h0.size) (E1 : Exa Z h0 a1 "org/arborlog/pattern/LineText") (F1 : Fld Z h0 a1 "org/arborlog/pattern/LineText" "chars" "[C" .null) (F2 : Fld Z h0 a1 "org/arborlog/pattern/LineText" "length" "I" (.int (0 : Int32))) (g1 : n0 ≤ a1) (hp0 : ¬ p2 < 0) (hp8 : p2.toNatClampNeg ≤ 8) :
    MetFree l (⟨"org/arborlog/pattern/LineText", "<init>", "(I)V"⟩ : MethodName) (head1 (Jvm.Cond.code (⟨"org/arborlog/pattern/LineText", "<init>", "(I)V"⟩ : MethodName) prog_20_method_1_code 2 none :: ws) ({ frames := 1, cells := 1, slots := 8, locals := 12 } : Room)) (fun a U => a = #[(.ref a1), (.int p2)] ∧ Z.Warmed39 U.vm ∧ U.heap = h0) (fun _ _ _ _ _ => True) (fun _ U o U' => ∃ v L, o = .returned v ∧ Q3 Z a1 p2 h0 n0 v U'.heap L ∧ FrameEnd U o U' L ({ frames := 1, cells := 1, slots := 8, locals := 12 } : Room).cells ({ frames := 1, cells := 1, slots := 8, locals := 12 } : Room).slots) := by
  refine MetFree.of_bodySF (plainFor_of_name pn_org_arborlog_pattern_LineText) hisR ?_
  intro p e s m args below meth c s₁ Bd hml0 hP hK
  obtain ⟨rfl, hZ, hh⟩ := hP
  have hx := Bd.exec
  have hby := Bd.bytes
  have hml : c.maxLocals = 2 := hml0
  have hown : s.vm.findClass "org/arborlog/pattern/LineText" = some m.cls := findClass_of_methodNamed Bd.named
  have hnm := (name_of_methodNamed Bd.named Bd.method).1
  have X0 : Stand p l e ({ frames := 1, cells := 1, slots := 8, locals := 12 } : Room) s m #[(.ref a1), (.int p2)] below meth c s₁ [] 0 0 := Stand.of_body Bd
  have e0 : s₁.heap = h0 := by rw [← hh, Bd.state]; rfl
  have N0 := Fr.nil n0
  have KP0 : Keep h0 h0 [a1] := Keep.refl h0 _
  obtain ⟨G, hG⟩ : ∃ G : State, G = s₁.setTop (entryFrame m #[(.ref a1), (.int p2)] 2) := ⟨_, rfl⟩
  have pre0 : ∀ t, Steps p.tables e below (s₁.setTop (mkF m 0 #[.val (.ref a1), .val (.int p2)] [])) t → Steps p.tables e below G t := fun t k => hG ▸ castTop (ef_rm3 m a1 p2) k
  have K1 : ∀ t, Steps p.tables e below (s₁.setTop (mkF m 1 #[.val (.ref a1), .val (.int p2)] [(.ref a1)])) t → Steps p.tables e below G t := by
    intro t k
    refine pre0 t ?_
    refine XS.aloadN X0.here hx rfl (hb hby d3_0) rfl rfl ?_
    exact k
  obtain ⟨T2, X2, e2, st2⟩ := initO X0 hx hZ hown (hw _ (List.mem_of_getElem? (i := 17) rfl)) (hw _ (List.mem_of_getElem? (i := 18) rfl)) (hw _ (List.mem_of_getElem? (i := 19) rfl)) e0 (g := (mkF m 1 #[.val (.ref a1), .val (.int p2)] [(.ref a1)])) rfl (by rw [hml]; rfl) rfl (hb hby d3_1) (by decide) (W := 0) (by show 2 * 0 + _ ≤ _; exact Nat.le_of_eq rfl) (by decide)
  have K3 : ∀ t, Steps p.tables e below (T2.setTop (mkF m 4 #[.val (.ref a1), .val (.int p2)] [])) t → Steps p.tables e below G t := fun t k => K1 t (st2 t k)
  have K4 : ∀ t, Steps p.tables e below (T2.setTop (mkF m 6 #[.val (.ref a1), .val (.int p2)] [(.int p2), (.ref a1)])) t → Steps p.tables e below G t := by
    intro t k
    refine K3 t ?_
    refine XS.aloadN X2.here hx rfl (hb hby d3_4) rfl rfl ?_
    refine XS.iloadN X2.here hx rfl (hb hby d3_5) rfl ?_
    exact k
  obtain ⟨T5, h5, kn5, X5, e5, E5, A5, st5⟩ := newP X2 hx hZ (hw _ (List.mem_of_getElem? (i := 0) rfl)) e2 (g := (mkF m 6 #[.val (.ref a1), .val (.int p2)] [(.int p2), (.ref a1)])) rfl (hb hby d3_6) rfl hp0 (cap := 8) hp8 (by decide) (by decide) (by decide)
  obtain ⟨b5, g5⟩ : ∃ z, z = h0.size := ⟨_, rfl⟩
  rw [← g5] at A5 st5
  have ne_a1_b5 : a1 ≠ b5 := Nat.ne_of_lt (Nat.lt_of_lt_of_le E1.lt (Nat.le_of_eq g5.symm))
  have g_b5 : n0 ≤ b5 := Nat.le_trans Z0 (Nat.le_of_eq g5.symm)
  have sz_b5 : h0.size ≤ b5 := Nat.le_trans KP0.1 (Nat.le_of_eq g5.symm)
  have f6 := E1.ext E5
  have f7 := F1.ext E5
  have f8 := F2.ext E5
  have Z9 : n0 ≤ h5.size := Nat.le_trans Z0 E5.1
  have KP10 : Keep h0 h5 [a1] := KP0.ext E5
  have K11 : ∀ t, Steps p.tables e below (T5.setTop (mkF m 8 #[.val (.ref a1), .val (.int p2)] [(.ref b5), (.ref a1)])) t → Steps p.tables e below G t := fun t k => K4 t (st5 t k)
  have V5 : Arv Z h5 b5 kn5 .char p2 [] (.int (0 : Int32)) := Arv.new A5 hp0
  obtain ⟨T12, h12, X12, e12, W12, st12⟩ := putF X5 hx hZ hown (host := "") (Or.inl (hw _ (List.mem_of_getElem? (i := 20) rfl))) Via.refl e5 f7 f6 (Or.inl (hw _ (List.mem_of_getElem? (i := 21) rfl))) (hw _ (List.mem_of_getElem? (i := 12) rfl)) (ty := (.array .char)) (by decide) rfl rfl (g := (mkF m 8 #[.val (.ref a1), .val (.int p2)] [(.ref b5), (.ref a1)])) rfl rfl (hb hby d3_8)
  have K13 : ∀ t, Steps p.tables e below (T12.setTop (mkF m 11 #[.val (.ref a1), .val (.int p2)] [])) t → Steps p.tables e below G t := fun t k => K11 t (st12 t k)
  have f14 := f6.wr W12
  have f15 := f7.same W12
  have f16 := f8.other W12 (Or.inr (slot_ne (Or.inl (hw _ (List.mem_of_getElem? (i := 84) rfl))) (Or.inl (hw _ (List.mem_of_getElem? (i := 21) rfl))) (by decide) (t := .int) (t' := (.array .char)) (by decide) (by decide)))
  have f17 := V5.other W12 (Ne.symm ne_a1_b5)
  have Z18 : n0 ≤ h12.size := Nat.le_trans Z9 (Keep.of_wr W12).1
  have KP19 : Keep h0 h12 [a1] := KP10.wr W12 (Or.inl (List.mem_of_getElem? (i := 0) rfl))
  have N20 := Fr.snoc X12 N0 g1
  obtain ⟨fs, hr, hrun, hended, hW, hsame⟩ := X12.leave (v := none) (fun _ => rfl)
  have KF := K13
  rw [hG] at KF
  refine ⟨_, _, KF _ ?_, hrun, hended, _, _, rfl, ?_, ⟨_, rfl⟩, hW, hsame.mono (by decide) (by decide)⟩
  · show Steps p.tables e below (T12.setTop (mkF m 11 #[.val (.ref a1), .val (.int p2)] [])) _
    exact X12.returnOut hx Bd.returns (hb hby d3_11) hr
  · show Q3 Z a1 p2 h0 n0 _ T12.heap _
    rw [e12]
    exact ⟨b5, _, rfl, N20, KP19, sz_b5, f14, f15, f16, f17⟩
def Q20 (Z : State) (z p2 : Int32) (vs : List Value) (h0 : Heap) (n0 : Nat) (v : Option Value) (h : Heap) (L : List Loc) : Prop := ∃ (b : Addr) (k : ClassId) (vs' : List Value), v = some (.ref b) ∧ Fr n0 L ∧ Keep h0 h [] ∧ h0.size ≤ b ∧ Arv Z h b k .char p2 vs' (Value.int (0 : Int32)) ∧ ∀ i : Nat, i < z.toNatClampNeg → vs'.getD i (Value.int (0 : Int32)) = vs.getD i (Value.int (0 : Int32))
theorem d20_0 : decode jdk_65_method_125_code 0 = .ok (.iload_n 1, 1) := by decide +kernel
theorem d20_1 : decode jdk_65_method_125_code 1 = .ok (.aload_n 0, 1) := by decide +kernel
theorem d20_2 : decode jdk_65_method_125_code 2 = .ok (.arraylength, 1) := by decide +kernel
theorem d20_3 : decode jdk_65_method_125_code 3 = .ok (.if_icmp .ne 11, 3) := by decide +kernel
theorem d20_6 : decode jdk_65_method_125_code 6 = .ok (.aload_n 0, 1) := by decide +kernel
theorem d20_7 : decode jdk_65_method_125_code 7 = .ok (.invokevirtual 322, 3) := by decide +kernel
theorem d20_10 : decode jdk_65_method_125_code 10 = .ok (.checkcast 323, 3) := by decide +kernel
theorem d20_13 : decode jdk_65_method_125_code 13 = .ok (.areturn, 1) := by decide +kernel
theorem d20_14 : decode jdk_65_method_125_code 14 = .ok (.iload_n 1, 1) := by decide +kernel
theorem d20_15 : decode jdk_65_method_125_code 15 = .ok (.newarray .char, 2) := by decide +kernel
theorem d20_17 : decode jdk_65_method_125_code 17 = .ok (.astore_n 2, 1) := by decide +kernel
theorem d20_18 : decode jdk_65_method_125_code 18 = .ok (.aload_n 0, 1) := by decide +kernel
theorem d20_19 : decode jdk_65_method_125_code 19 = .ok (.iconst 0, 1) := by decide +kernel
theorem d20_20 : decode jdk_65_method_125_code 20 = .ok (.aload_n 2, 1) := by decide +kernel
theorem d20_21 : decode jdk_65_method_125_code 21 = .ok (.iconst 0, 1) := by decide +kernel
theorem d20_22 : decode jdk_65_method_125_code 22 = .ok (.aload_n 0, 1) := by decide +kernel
theorem d20_23 : decode jdk_65_method_125_code 23 = .ok (.arraylength, 1) := by decide +kernel
theorem d20_24 : decode jdk_65_method_125_code 24 = .ok (.iload_n 1, 1) := by decide +kernel
theorem d20_25 : decode jdk_65_method_125_code 25 = .ok (.invokestatic 304, 3) := by decide +kernel
theorem d20_28 : decode jdk_65_method_125_code 28 = .ok (.invokestatic 150, 3) := by decide +kernel
theorem d20_31 : decode jdk_65_method_125_code 31 = .ok (.aload_n 2, 1) := by decide +kernel
theorem d20_32 : decode jdk_65_method_125_code 32 = .ok (.areturn, 1) := by decide +kernel
theorem pn_java_util_Arrays : plainName "java/util/Arrays" = true := by first | (simp [plainName, overriddenIn]; done) | decide +kernel
theorem pd_0 : parseMethodDescriptor "(II)I" = some ⟨[.int, .int], some .int⟩ := by decide +kernel
theorem ef_rm20 (m : MethodId) (x0 : Addr) (x1 : Int32) : entryFrame m #[(.ref x0), (.int x1)] 3 = mkF m 0 #[.val (.ref x0), .val (.int x1), .unset] [] := by first | (simp [entryFrame, mkF, argsToLocals, Value.category]; done) | rfl
set_option maxRecDepth 65536 in
set_option maxHeartbeats 40000000 in
theorem rm20 (l : Launch) (Z : State) (a0 : Array Value) (hw : ∀ d ∈ tables_1, d.before a0 Z = true) (ws : List Jvm.Cond) (a1 : Addr) (p2 : Int32) (k : ClassId) (z : Int32) (vs : List Value) (h0 : Heap) (n0 : Nat) (Z0 : n0 ≤ h0.size) (V1 : Arv Z h0 a1 k .char z vs (Value.int (0 : Int32))) (hlt : z < p2) (hz0 : ¬ z < 0) (hp0 : ¬ p2 < 0) (hp8 : p2.toNatClampNeg ≤ 10) :
    MetFree l (⟨"java/util/Arrays", "copyOf", "([CI)[C"⟩ : MethodName) (head1 (Jvm.Cond.code (⟨"java/util/Arrays", "copyOf", "([CI)[C"⟩ : MethodName) jdk_65_method_125_code 3 (some (.array .char)) :: ws) ({ frames := 1, cells := 1, slots := 10, locals := 18 } : Room)) (fun a U => a = #[(.ref a1), (.int p2)] ∧ Z.Warmed39 U.vm ∧ U.heap = h0) (fun _ _ _ _ _ => True) (fun _ U o U' => ∃ v L, o = .returned v ∧ Q20 Z z p2 vs h0 n0 v U'.heap L ∧ FrameEnd U o U' L ({ frames := 1, cells := 1, slots := 10, locals := 18 } : Room).cells ({ frames := 1, cells := 1, slots := 10, locals := 18 } : Room).slots) := by
  refine MetFree.of_bodySF (plainFor_of_name pn_java_util_Arrays) hisR ?_
  intro p e s m args below meth c s₁ Bd hml0 hP hK
  obtain ⟨rfl, hZ, hh⟩ := hP
  have hx := Bd.exec
  have hby := Bd.bytes
  have hml : c.maxLocals = 3 := hml0
  have hown : s.vm.findClass "java/util/Arrays" = some m.cls := findClass_of_methodNamed Bd.named
  have hnm := (name_of_methodNamed Bd.named Bd.method).1
  have X0 : Stand p l e ({ frames := 1, cells := 1, slots := 10, locals := 18 } : Room) s m #[(.ref a1), (.int p2)] below meth c s₁ [] 0 0 := Stand.of_body Bd
  have e0 : s₁.heap = h0 := by rw [← hh, Bd.state]; rfl
  have N0 := Fr.nil n0
  have KP0 : Keep h0 h0 [] := Keep.refl h0 _
  obtain ⟨G, hG⟩ : ∃ G : State, G = s₁.setTop (entryFrame m #[(.ref a1), (.int p2)] 3) := ⟨_, rfl⟩
  have pre0 : ∀ t, Steps p.tables e below (s₁.setTop (mkF m 0 #[.val (.ref a1), .val (.int p2), .unset] [])) t → Steps p.tables e below G t := fun t k => hG ▸ castTop (ef_rm20 m a1 p2) k
  have K1 : ∀ t, Steps p.tables e below (s₁.setTop (mkF m 2 #[.val (.ref a1), .val (.int p2), .unset] [(.ref a1), (.int p2)])) t → Steps p.tables e below G t := by
    intro t k
    refine pre0 t ?_
    refine XS.iloadN X0.here hx rfl (hb hby d20_0) rfl ?_
    refine XS.aloadN X0.here hx rfl (hb hby d20_1) rfl rfl ?_
    exact k
  obtain ⟨cl2, Ar2, -, S2, M2, -, -⟩ := id V1
  have K3 : ∀ t, Steps p.tables e below (s₁.setTop (mkF m 3 #[.val (.ref a1), .val (.int p2), .unset] [(.int z), (.int p2)])) t → Steps p.tables e below G t := by
    intro t k
    refine K1 t ?_
    refine X0.arraylength hx (by rw [e0]; exact Ar2.1) (State.isArrayOf_alike hZ.alike Ar2.2.1) (g := (mkF m 2 #[.val (.ref a1), .val (.int p2), .unset] [(.ref a1), (.int p2)])) rfl rfl (hb hby d20_2) _ ?_
    rw [len_of S2 M2]
    exact k
  have K4 : ∀ t, Steps p.tables e below (s₁.setTop (mkF m 15 #[.val (.ref a1), .val (.int p2), .unset] [(.int p2)])) t → Steps p.tables e below G t := by
    intro t k
    refine K3 t ?_
    refine XS.icmpYes X0.here hx rfl (pc0 := 3) (pc' := 14) rfl (hb hby d20_3) rfl (feq (fun q : p2 = z => by subst q; exact Int32.lt_irrefl hlt)).2 (by decide) (by decide) ?_
    refine XS.iloadN X0.here hx rfl (hb hby d20_14) rfl ?_
    exact k
  obtain ⟨T5, h5, kn5, X5, e5, E5, A5, st5⟩ := newP X0 hx hZ (hw _ (List.mem_of_getElem? (i := 0) rfl)) e0 (g := (mkF m 15 #[.val (.ref a1), .val (.int p2), .unset] [(.int p2)])) rfl (hb hby d20_15) rfl hp0 (cap := 10) hp8 (by decide) (by decide) (by decide)
  obtain ⟨b5, g5⟩ : ∃ z, z = h0.size := ⟨_, rfl⟩
  rw [← g5] at A5 st5
  have ne_a1_b5 : a1 ≠ b5 := Nat.ne_of_lt (Nat.lt_of_lt_of_le V1.lt (Nat.le_of_eq g5.symm))
  have g_b5 : n0 ≤ b5 := Nat.le_trans Z0 (Nat.le_of_eq g5.symm)
  have sz_b5 : h0.size ≤ b5 := Nat.le_trans KP0.1 (Nat.le_of_eq g5.symm)
  have f6 := V1.ext E5
  have Z7 : n0 ≤ h5.size := Nat.le_trans Z0 E5.1
  have KP8 : Keep h0 h5 [] := KP0.ext E5
  have K9 : ∀ t, Steps p.tables e below (T5.setTop (mkF m 17 #[.val (.ref a1), .val (.int p2), .unset] [(.ref b5)])) t → Steps p.tables e below G t := fun t k => K4 t (st5 t k)
  have V5 : Arv Z h5 b5 kn5 .char p2 [] (.int (0 : Int32)) := Arv.new A5 hp0
  have K10 : ∀ t, Steps p.tables e below (T5.setTop (mkF m 23 #[.val (.ref a1), .val (.int p2), .val (.ref b5)] [(.ref a1), (.int (0 : Int32)), (.ref b5), (.int (0 : Int32)), (.ref a1)])) t → Steps p.tables e below G t := by
    intro t k
    refine K9 t ?_
    refine XS.astoreN X5.here hx rfl (hb hby d20_17) rfl rfl (l' := #[.val (.ref a1), .val (.int p2), .val (.ref b5)]) rfl ?_
    refine XS.aloadN X5.here hx rfl (hb hby d20_18) rfl rfl ?_
    refine XS.iconst X5.here hx rfl (hb hby d20_19) ?_
    refine XS.aloadN X5.here hx rfl (hb hby d20_20) rfl rfl ?_
    refine XS.iconst X5.here hx rfl (hb hby d20_21) ?_
    refine XS.aloadN X5.here hx rfl (hb hby d20_22) rfl rfl ?_
    exact k
  obtain ⟨cl11, Ar11, -, S11, M11, -, -⟩ := id f6
  have K12 : ∀ t, Steps p.tables e below (T5.setTop (mkF m 24 #[.val (.ref a1), .val (.int p2), .val (.ref b5)] [(.int z), (.int (0 : Int32)), (.ref b5), (.int (0 : Int32)), (.ref a1)])) t → Steps p.tables e below G t := by
    intro t k
    refine K10 t ?_
    refine X5.arraylength hx (by rw [e5]; exact Ar11.1) (State.isArrayOf_alike hZ.alike Ar11.2.1) (g := (mkF m 23 #[.val (.ref a1), .val (.int p2), .val (.ref b5)] [(.ref a1), (.int (0 : Int32)), (.ref b5), (.int (0 : Int32)), (.ref a1)])) rfl rfl (hb hby d20_23) _ ?_
    rw [len_of S11 M11]
    exact k
  have K13 : ∀ t, Steps p.tables e below (T5.setTop (mkF m 25 #[.val (.ref a1), .val (.int p2), .val (.ref b5)] [(.int p2), (.int z), (.int (0 : Int32)), (.ref b5), (.int (0 : Int32)), (.ref a1)])) t → Steps p.tables e below G t := by
    intro t k
    refine K12 t ?_
    refine XS.iloadN X5.here hx rfl (hb hby d20_24) rfl ?_
    exact k
  obtain ⟨_, _, ⟨T14, L14, kk14, nn14⟩, -, X14, ⟨Lc14, hQ14, lq14, yq14, zq14⟩, st14⟩ := Jvm.LawKit.callS X5 hx (y := (⟨"java/lang/Math", "min", "(II)I"⟩ : MethodName)) hown (mvT hZ (hw _ (List.mem_of_getElem? (i := 97) rfl))) (mvT hZ (hw _ (List.mem_of_getElem? (i := 98) rfl))) (mvT hZ (hw _ (List.mem_of_getElem? (i := 91) rfl))) (mvT hZ (hw _ (List.mem_of_getElem? (i := 99) rfl))) (by decide) (backOf (W := 4) (rm21 l Z a0 hw [] z p2 h5 n0 Z7 ) hZ (hw _ (List.mem_of_getElem? (i := 99) rfl)) (hw _ (List.mem_of_getElem? (i := 91) rfl)) (by decide) (by decide)) (g := (mkF m 25 #[.val (.ref a1), .val (.int p2), .val (.ref b5)] [(.int p2), (.int z), (.int (0 : Int32)), (.ref b5), (.int (0 : Int32)), (.ref a1)])) rfl (by rw [hml]; rfl) (argsL := [(.int z), (.int p2)]) (rest := [(.int (0 : Int32)), (.ref b5), (.int (0 : Int32)), (.ref a1)]) (lenOf pd_0 rfl) rfl (by show 2 * 0 + _ ≤ _; exact Nat.le_of_eq rfl) (hb hby d20_25) (fun _ _ => ⟨rfl, e5, (by decide : 1 + 0 ≤ _), (by decide : 10 + 0 ≤ _)⟩)
  dsimp only [Pt.U, Pt.locs, Pt.cells, Pt.slots] at X14 lq14 yq14 zq14 st14 hQ14
  subst lq14 yq14 zq14
  obtain ⟨rfl, Nq14, e14⟩ := hQ14
  have N15 := Fr.app N0 Nq14
  have K16 : ∀ t, Steps p.tables e below (T14.setTop (mkF m 28 #[.val (.ref a1), .val (.int p2), .val (.ref b5)] [(.int (if p2 < z then p2 else z)), (.int (0 : Int32)), (.ref b5), (.int (0 : Int32)), (.ref a1)])) t → Steps p.tables e below G t := fun t k => K13 t (st14 _ k)
  have hmin : (if p2 < z then p2 else z) = z := if_neg (fun q => by rw [Int32.lt_iff_toInt_lt] at q hlt; omega)
  have K17 : ∀ t, Steps p.tables e below (T14.setTop (mkF m 28 #[.val (.ref a1), .val (.int p2), .val (.ref b5)] [(.int z), (.int (0 : Int32)), (.ref b5), (.int (0 : Int32)), (.ref a1)])) t → Steps p.tables e below G t := by have q := K16; rw [hmin] at q; exact q
  have VP19 : Arv Z h5 b5 kn5 .char p2 ([] ++ List.replicate 16 (Value.int (0 : Int32))) (Value.int (0 : Int32)) := V5.pad (pad_rep [] (Value.int (0 : Int32)) 16)
  have hz8 : z.toNatClampNeg ≤ p2.toNatClampNeg := by rw [Int32.lt_iff_toInt_lt] at hlt; simp only [Int32.toNatClampNeg]; omega
  obtain ⟨T18, h18, L18, X18, e18, N18, K18, V18, st18⟩ := cpA X14 hx hZ hown (hw _ (List.mem_of_getElem? (i := 100) rfl)) (hw _ (List.mem_of_getElem? (i := 103) rfl)) (hw _ (List.mem_of_getElem? (i := 101) rfl)) (hw _ (List.mem_of_getElem? (i := 102) rfl)) e14 f6 VP19 (Or.inl ⟨rfl, rfl⟩) (by decide) (by decide) hz0 (by show 0 + z.toNatClampNeg ≤ _; omega) (by show 0 + z.toNatClampNeg ≤ _; omega) rfl (by show 0 + z.toNatClampNeg ≤ 16; omega) N15 g_b5 (g := (mkF m 28 #[.val (.ref a1), .val (.int p2), .val (.ref b5)] [(.int z), (.int (0 : Int32)), (.ref b5), (.int (0 : Int32)), (.ref a1)])) rfl (by rw [hml]; rfl) rfl (hb hby d20_28) (by decide) (W := 0) (by show 2 * 0 + _ ≤ _; exact Nat.le_of_eq rfl) (by decide)
  have K20 : ∀ t, Steps p.tables e below (T18.setTop (mkF m 31 #[.val (.ref a1), .val (.int p2), .val (.ref b5)] [])) t → Steps p.tables e below G t := fun t k => K17 t (st18 t k)
  have f21 := f6.keep K18 (ninS ne_a1_b5 nin0)
  have Z22 : n0 ≤ h18.size := Nat.le_trans Z7 K18.1
  have KP23 : Keep h0 h18 [] := KP8.trans K18 (allS (Or.inr sz_b5) all0)
  obtain ⟨fs, hr, hrun, hended, hW, hsame⟩ := X18.leave (v := some (.ref b5)) (fun h => by rw [Bd.returns] at h; cases h)
  have KF := K20
  rw [hG] at KF
  refine ⟨_, _, KF _ ?_, hrun, hended, _, _, rfl, ?_, ⟨_, rfl⟩, hW, hsame.mono (by decide) (by decide)⟩
  · refine XS.aloadN X18.here hx rfl (hb hby d20_31) rfl rfl ?_
    show Steps p.tables e below (T18.setTop (mkF m 32 #[.val (.ref a1), .val (.int p2), .val (.ref b5)] [(.ref b5)])) _
    exact own_retA X18 hx Bd.returns rfl rfl rfl (hb hby d20_32) hr
  · show Q20 Z z p2 vs h0 n0 _ T18.heap _
    rw [e18]
    refine ⟨_, _, _, rfl, N18, KP23, sz_b5, V18, fun i hi => ?_⟩
    rw [own_cp _ _ _ _ _ _ (by show 0 + z.toNatClampNeg ≤ 16; omega)]
    rw [if_neg (show ¬ i < (0 : Int32).toNatClampNeg from Nat.not_lt_zero i), if_pos (show i < (0 : Int32).toNatClampNeg + z.toNatClampNeg by show i < 0 + z.toNatClampNeg; omega)]
    show vs.getD (0 + (i - 0)) _ = _; rw [Nat.zero_add, Nat.sub_zero]
def Q18 (Z : State) (a1 b2 : Addr) (p1 z mL : Int32) (vs : List Value) (h0 : Heap) (n0 : Nat) (v : Option Value) (h : Heap) (L : List Loc) : Prop := ∃ (b : Addr) (k : ClassId) (z' : Int32) (vs' : List Value), v = none ∧ Fr n0 L ∧ Keep h0 h [a1] ∧ (b = b2 ∨ h0.size ≤ b) ∧ Exa Z h a1 "org/arborlog/pattern/LineText" ∧ Fld Z h a1 "org/arborlog/pattern/LineText" "chars" "[C" (.ref b) ∧ Fld Z h a1 "org/arborlog/pattern/LineText" "length" "I" (.int mL) ∧ Arv Z h b k .char z' vs' (Value.int (0 : Int32)) ∧ (¬ z' < p1 ∧ z'.toInt ≤ 10) ∧ ∀ i : Nat, i < z.toNatClampNeg → vs'.getD i (Value.int (0 : Int32)) = vs.getD i (Value.int (0 : Int32))
theorem own_grow {z p nl : Int32} (hz0 : ¬ z < 0) (hp : ¬ p < 0 ∧ p.toInt ≤ 6) (h : z < p) (e : nl = if p < (2 : Int32) * z then (2 : Int32) * z else p) : z < nl ∧ ¬ nl < 0 ∧ nl.toNatClampNeg ≤ 10 ∧ ¬ nl < p ∧ nl.toInt ≤ 10 := by
  have z0 : (0 : Int32).toInt = 0 := rfl
  have z2 : (2 : Int32).toInt = 2 := rfl
  have m := c_imul 2 z
  have r := rng32 ((2 : Int32) * z)
  rw [z2] at m
  simp only [Int32.lt_iff_toInt_lt, Int32.toNatClampNeg] at *
  have mm : ((2 : Int32) * z).toInt = 2 * z.toInt := by omega
  by_cases q : p.toInt < ((2 : Int32) * z).toInt
  · rw [if_pos q] at e; subst e; omega
  · rw [if_neg q] at e; subst e; omega
theorem d18_0 : decode prog_20_method_14_code 0 = .ok (.iload_n 1, 1) := by decide +kernel
theorem d18_1 : decode prog_20_method_14_code 1 = .ok (.ifCond .ge 13, 3) := by decide +kernel
theorem d18_4 : decode prog_20_method_14_code 4 = .ok (.new 58, 3) := by decide +kernel
theorem d18_7 : decode prog_20_method_14_code 7 = .ok (.dup, 1) := by decide +kernel
theorem d18_8 : decode prog_20_method_14_code 8 = .ok (.ldc 60, 2) := by decide +kernel
theorem d18_10 : decode prog_20_method_14_code 10 = .ok (.invokespecial 62, 3) := by decide +kernel
theorem d18_13 : decode prog_20_method_14_code 13 = .ok (.athrow, 1) := by decide +kernel
theorem d18_14 : decode prog_20_method_14_code 14 = .ok (.iload_n 1, 1) := by decide +kernel
theorem d18_15 : decode prog_20_method_14_code 15 = .ok (.aload_n 0, 1) := by decide +kernel
theorem d18_16 : decode prog_20_method_14_code 16 = .ok (.getfield 7, 3) := by decide +kernel
theorem d18_19 : decode prog_20_method_14_code 19 = .ok (.arraylength, 1) := by decide +kernel
theorem d18_20 : decode prog_20_method_14_code 20 = .ok (.if_icmp .le 25, 3) := by decide +kernel
theorem d18_23 : decode prog_20_method_14_code 23 = .ok (.aload_n 0, 1) := by decide +kernel
theorem d18_24 : decode prog_20_method_14_code 24 = .ok (.aload_n 0, 1) := by decide +kernel
theorem d18_25 : decode prog_20_method_14_code 25 = .ok (.getfield 7, 3) := by decide +kernel
theorem d18_28 : decode prog_20_method_14_code 28 = .ok (.iload_n 1, 1) := by decide +kernel
theorem d18_29 : decode prog_20_method_14_code 29 = .ok (.iconst 2, 1) := by decide +kernel
theorem d18_30 : decode prog_20_method_14_code 30 = .ok (.aload_n 0, 1) := by decide +kernel
theorem d18_31 : decode prog_20_method_14_code 31 = .ok (.getfield 7, 3) := by decide +kernel
theorem d18_34 : decode prog_20_method_14_code 34 = .ok (.arraylength, 1) := by decide +kernel
theorem d18_35 : decode prog_20_method_14_code 35 = .ok (.imul, 1) := by decide +kernel
theorem d18_36 : decode prog_20_method_14_code 36 = .ok (.invokestatic 65, 3) := by decide +kernel
theorem d18_39 : decode prog_20_method_14_code 39 = .ok (.invokestatic 71, 3) := by decide +kernel
theorem d18_42 : decode prog_20_method_14_code 42 = .ok (.putfield 7, 3) := by decide +kernel
theorem d18_45 : decode prog_20_method_14_code 45 = .ok (.return_, 1) := by decide +kernel
theorem pd_1 : parseMethodDescriptor "([CI)[C" = some ⟨[(.array .char), .int], some (.array .char)⟩ := by decide +kernel
theorem ef_rm18 (m : MethodId) (x0 : Addr) (x1 : Int32) : entryFrame m #[(.ref x0), (.int x1)] 2 = mkF m 0 #[.val (.ref x0), .val (.int x1)] [] := by first | (simp [entryFrame, mkF, argsToLocals, Value.category]; done) | rfl
set_option maxRecDepth 65536 in
set_option maxHeartbeats 40000000 in
theorem rm18 (l : Launch) (Z : State) (a0 : Array Value) (hw : ∀ d ∈ tables_1, d.before a0 Z = true) (ws : List Jvm.Cond) (a1 : Addr) (p1 : Int32) (b2 : Addr) (k : ClassId) (z mL : Int32) (vs : List Value) (h0 : Heap) (n0 : Nat) (Z0 : n0 ≤ h0.size) (E1 : Exa Z h0 a1 "org/arborlog/pattern/LineText") (F1 : Fld Z h0 a1 "org/arborlog/pattern/LineText" "chars" "[C" (.ref b2)) (F2 : Fld Z h0 a1 "org/arborlog/pattern/LineText" "length" "I" (.int mL)) (V2 : Arv Z h0 b2 k .char z vs (Value.int (0 : Int32))) (ne12 : a1 ≠ b2) (g1 : n0 ≤ a1) (hp : ¬ p1 < 0 ∧ p1.toInt ≤ 6) (hz0 : ¬ z < 0) (hz8 : z.toInt ≤ 10) :
    MetFree l (⟨"org/arborlog/pattern/LineText", "ensureCapacity", "(I)V"⟩ : MethodName) (head1 (Jvm.Cond.code (⟨"org/arborlog/pattern/LineText", "ensureCapacity", "(I)V"⟩ : MethodName) prog_20_method_14_code 2 none :: ws) ({ frames := 2, cells := 1, slots := 10, locals := 33 } : Room)) (fun a U => a = #[(.ref a1), (.int p1)] ∧ Z.Warmed39 U.vm ∧ U.heap = h0) (fun _ _ _ _ _ => True) (fun _ U o U' => ∃ v L, o = .returned v ∧ Q18 Z a1 b2 p1 z mL vs h0 n0 v U'.heap L ∧ FrameEnd U o U' L ({ frames := 2, cells := 1, slots := 10, locals := 33 } : Room).cells ({ frames := 2, cells := 1, slots := 10, locals := 33 } : Room).slots) := by
  refine MetFree.of_bodySF (plainFor_of_name pn_org_arborlog_pattern_LineText) hisR ?_
  intro p e s m args below meth c s₁ Bd hml0 hP hK
  obtain ⟨rfl, hZ, hh⟩ := hP
  have hx := Bd.exec
  have hby := Bd.bytes
  have hml : c.maxLocals = 2 := hml0
  have hown : s.vm.findClass "org/arborlog/pattern/LineText" = some m.cls := findClass_of_methodNamed Bd.named
  have hnm := (name_of_methodNamed Bd.named Bd.method).1
  have X0 : Stand p l e ({ frames := 2, cells := 1, slots := 10, locals := 33 } : Room) s m #[(.ref a1), (.int p1)] below meth c s₁ [] 0 0 := Stand.of_body Bd
  have e0 : s₁.heap = h0 := by rw [← hh, Bd.state]; rfl
  have N0 := Fr.nil n0
  have KP0 : Keep h0 h0 [a1] := Keep.refl h0 _
  obtain ⟨G, hG⟩ : ∃ G : State, G = s₁.setTop (entryFrame m #[(.ref a1), (.int p1)] 2) := ⟨_, rfl⟩
  have pre0 : ∀ t, Steps p.tables e below (s₁.setTop (mkF m 0 #[.val (.ref a1), .val (.int p1)] [])) t → Steps p.tables e below G t := fun t k => hG ▸ castTop (ef_rm18 m a1 p1) k
  have K1 : ∀ t, Steps p.tables e below (s₁.setTop (mkF m 16 #[.val (.ref a1), .val (.int p1)] [(.ref a1), (.int p1)])) t → Steps p.tables e below G t := by
    intro t k
    refine pre0 t ?_
    refine XS.iloadN X0.here hx rfl (hb hby d18_0) rfl ?_
    refine XS.ifYes X0.here hx rfl (pc0 := 1) (pc' := 14) rfl (hb hby d18_1) rfl ((if0 _ _).trans (flt hp.1).2.1) (by decide) (by decide) ?_
    refine XS.iloadN X0.here hx rfl (hb hby d18_14) rfl ?_
    refine XS.aloadN X0.here hx rfl (hb hby d18_15) rfl rfl ?_
    exact k
  obtain ⟨T2, X2, e2, st2⟩ := getF X0 hx hZ hown (host := "") (Or.inl (hw _ (List.mem_of_getElem? (i := 20) rfl))) Via.refl e0 F1 (g := (mkF m 16 #[.val (.ref a1), .val (.int p1)] [(.ref a1), (.int p1)])) rfl rfl (hb hby d18_16)
  have K3 : ∀ t, Steps p.tables e below (T2.setTop (mkF m 19 #[.val (.ref a1), .val (.int p1)] [(.ref b2), (.int p1)])) t → Steps p.tables e below G t := fun t k => K1 t (st2 t k)
  obtain ⟨cl4, Ar4, -, S4, M4, -, -⟩ := id V2
  have K5 : ∀ t, Steps p.tables e below (T2.setTop (mkF m 20 #[.val (.ref a1), .val (.int p1)] [(.int z), (.int p1)])) t → Steps p.tables e below G t := by
    intro t k
    refine K3 t ?_
    refine X2.arraylength hx (by rw [e2]; exact Ar4.1) (State.isArrayOf_alike hZ.alike Ar4.2.1) (g := (mkF m 19 #[.val (.ref a1), .val (.int p1)] [(.ref b2), (.int p1)])) rfl rfl (hb hby d18_19) _ ?_
    rw [len_of S4 M4]
    exact k
  by_cases hc6 : z < p1
  · have K7 : ∀ t, Steps p.tables e below (T2.setTop (mkF m 25 #[.val (.ref a1), .val (.int p1)] [(.ref a1), (.ref a1)])) t → Steps p.tables e below G t := by
      intro t k
      refine K5 t ?_
      refine XS.icmpNo X2.here hx rfl (hb hby d18_20) rfl (tlt hc6).2.2.2 ?_
      refine XS.aloadN X2.here hx rfl (hb hby d18_23) rfl rfl ?_
      refine XS.aloadN X2.here hx rfl (hb hby d18_24) rfl rfl ?_
      exact k
    obtain ⟨T8, X8, e8, st8⟩ := getF X2 hx hZ hown (host := "") (Or.inl (hw _ (List.mem_of_getElem? (i := 20) rfl))) Via.refl e2 F1 (g := (mkF m 25 #[.val (.ref a1), .val (.int p1)] [(.ref a1), (.ref a1)])) rfl rfl (hb hby d18_25)
    have K9 : ∀ t, Steps p.tables e below (T8.setTop (mkF m 28 #[.val (.ref a1), .val (.int p1)] [(.ref b2), (.ref a1)])) t → Steps p.tables e below G t := fun t k => K7 t (st8 t k)
    have K10 : ∀ t, Steps p.tables e below (T8.setTop (mkF m 31 #[.val (.ref a1), .val (.int p1)] [(.ref a1), (.int (2 : Int32)), (.int p1), (.ref b2), (.ref a1)])) t → Steps p.tables e below G t := by
      intro t k
      refine K9 t ?_
      refine XS.iloadN X8.here hx rfl (hb hby d18_28) rfl ?_
      refine XS.iconst X8.here hx rfl (hb hby d18_29) ?_
      refine XS.aloadN X8.here hx rfl (hb hby d18_30) rfl rfl ?_
      exact k
    obtain ⟨T11, X11, e11, st11⟩ := getF X8 hx hZ hown (host := "") (Or.inl (hw _ (List.mem_of_getElem? (i := 20) rfl))) Via.refl e8 F1 (g := (mkF m 31 #[.val (.ref a1), .val (.int p1)] [(.ref a1), (.int (2 : Int32)), (.int p1), (.ref b2), (.ref a1)])) rfl rfl (hb hby d18_31)
    have K12 : ∀ t, Steps p.tables e below (T11.setTop (mkF m 34 #[.val (.ref a1), .val (.int p1)] [(.ref b2), (.int (2 : Int32)), (.int p1), (.ref b2), (.ref a1)])) t → Steps p.tables e below G t := fun t k => K10 t (st11 t k)
    obtain ⟨cl13, Ar13, -, S13, M13, -, -⟩ := id V2
    have K14 : ∀ t, Steps p.tables e below (T11.setTop (mkF m 35 #[.val (.ref a1), .val (.int p1)] [(.int z), (.int (2 : Int32)), (.int p1), (.ref b2), (.ref a1)])) t → Steps p.tables e below G t := by
      intro t k
      refine K12 t ?_
      refine X11.arraylength hx (by rw [e11]; exact Ar13.1) (State.isArrayOf_alike hZ.alike Ar13.2.1) (g := (mkF m 34 #[.val (.ref a1), .val (.int p1)] [(.ref b2), (.int (2 : Int32)), (.int p1), (.ref b2), (.ref a1)])) rfl rfl (hb hby d18_34) _ ?_
      rw [len_of S13 M13]
      exact k
    have K15 : ∀ t, Steps p.tables e below (T11.setTop (mkF m 36 #[.val (.ref a1), .val (.int p1)] [(.int ((2 : Int32) * z)), (.int p1), (.ref b2), (.ref a1)])) t → Steps p.tables e below G t := by
      intro t k
      refine K14 t ?_
      refine XS.imul X11.here hx rfl (hb hby d18_35) rfl ?_
      exact k
    obtain ⟨_, _, ⟨T16, L16, kk16, nn16⟩, -, X16, ⟨Lc16, hQ16, lq16, yq16, zq16⟩, st16⟩ := Jvm.LawKit.callS X11 hx (y := (⟨"java/lang/Math", "max", "(II)I"⟩ : MethodName)) hown (mvT hZ (hw _ (List.mem_of_getElem? (i := 89) rfl))) (mvT hZ (hw _ (List.mem_of_getElem? (i := 90) rfl))) (mvT hZ (hw _ (List.mem_of_getElem? (i := 91) rfl))) (mvT hZ (hw _ (List.mem_of_getElem? (i := 92) rfl))) (by decide) (backOf (W := 2) (rm19 l Z a0 hw [] p1 ((2 : Int32) * z) h0 n0 Z0 ) hZ (hw _ (List.mem_of_getElem? (i := 92) rfl)) (hw _ (List.mem_of_getElem? (i := 91) rfl)) (by decide) (by decide)) (g := (mkF m 36 #[.val (.ref a1), .val (.int p1)] [(.int ((2 : Int32) * z)), (.int p1), (.ref b2), (.ref a1)])) rfl (by rw [hml]; rfl) (argsL := [(.int p1), (.int ((2 : Int32) * z))]) (rest := [(.ref b2), (.ref a1)]) (lenOf pd_0 rfl) rfl (by show 2 * 0 + _ ≤ _; exact Nat.le_of_eq rfl) (hb hby d18_36) (fun _ _ => ⟨rfl, e11, (by decide : 0 + 0 ≤ _), (by decide : 0 + 0 ≤ _)⟩)
    dsimp only [Pt.U, Pt.locs, Pt.cells, Pt.slots] at X16 lq16 yq16 zq16 st16 hQ16
    subst lq16 yq16 zq16
    obtain ⟨rfl, Nq16, e16⟩ := hQ16
    have N17 := Fr.app N0 Nq16
    have K18 : ∀ t, Steps p.tables e below (T16.setTop (mkF m 39 #[.val (.ref a1), .val (.int p1)] [(.int (if p1 < ((2 : Int32) * z) then ((2 : Int32) * z) else p1)), (.ref b2), (.ref a1)])) t → Steps p.tables e below G t := fun t k => K15 t (st16 _ k)
    obtain ⟨nl, h_nl⟩ : ∃ z_ : Int32, z_ = (if p1 < ((2 : Int32) * z) then ((2 : Int32) * z) else p1) := ⟨_, rfl⟩
    have K19 : ∀ t, Steps p.tables e below (T16.setTop (mkF m 39 #[.val (.ref a1), .val (.int p1)] [(.int nl), (.ref b2), (.ref a1)])) t → Steps p.tables e below G t := by rw [h_nl]; exact K18
    have hnl := own_grow hz0 hp hc6 h_nl
    obtain ⟨_, _, ⟨T20, L20, kk20, nn20⟩, -, X20, ⟨Lc20, hQ20, lq20, yq20, zq20⟩, st20⟩ := Jvm.LawKit.callS X16 hx (y := (⟨"java/util/Arrays", "copyOf", "([CI)[C"⟩ : MethodName)) hown (mvT hZ (hw _ (List.mem_of_getElem? (i := 93) rfl))) (mvT hZ (hw _ (List.mem_of_getElem? (i := 94) rfl))) (mvT hZ (hw _ (List.mem_of_getElem? (i := 95) rfl))) (mvT hZ (hw _ (List.mem_of_getElem? (i := 96) rfl))) (by decide) (backOf (W := 1) (rm20 l Z a0 hw [] b2 nl k z vs h0 n0 Z0 V2 hnl.1 hz0 hnl.2.1 hnl.2.2.1) hZ (hw _ (List.mem_of_getElem? (i := 96) rfl)) (hw _ (List.mem_of_getElem? (i := 95) rfl)) (by decide) (by decide)) (g := (mkF m 39 #[.val (.ref a1), .val (.int p1)] [(.int nl), (.ref b2), (.ref a1)])) rfl (by rw [hml]; rfl) (argsL := [(.ref b2), (.int nl)]) (rest := [(.ref a1)]) (lenOf pd_1 rfl) rfl (by show 2 * 0 + _ ≤ _; exact Nat.le_of_eq rfl) (hb hby d18_39) (fun _ _ => ⟨rfl, e16, (by decide : 0 + 1 ≤ _), (by decide : 0 + 10 ≤ _)⟩)
    dsimp only [Pt.U, Pt.locs, Pt.cells, Pt.slots] at X20 lq20 yq20 zq20 st20 hQ20
    subst lq20 yq20 zq20
    obtain ⟨b20, kb20, vs20, rfl, Nq20, K20, sz20, Vb20, hc20⟩ := hQ20
    have N21 := Fr.app N17 Nq20
    have ne_a1_b20 : a1 ≠ b20 := Nat.ne_of_lt (Nat.lt_of_lt_of_le E1.lt sz20)
    have ne_b2_b20 : b2 ≠ b20 := Nat.ne_of_lt (Nat.lt_of_lt_of_le V2.lt sz20)
    have g_b20 : n0 ≤ b20 := Nat.le_trans Z0 sz20
    have sz_b20 : h0.size ≤ b20 := Nat.le_trans KP0.1 sz20
    have f22 := E1.keep K20
    have f23 := F1.keep K20 nin0
    have f24 := F2.keep K20 nin0
    have f25 := V2.keep K20 nin0
    have Z26 : n0 ≤ T20.heap.size := Nat.le_trans Z0 K20.1
    have KP27 : Keep h0 T20.heap [a1] := KP0.trans K20 all0
    have K28 : ∀ t, Steps p.tables e below (T20.setTop (mkF m 42 #[.val (.ref a1), .val (.int p1)] [(.ref b20), (.ref a1)])) t → Steps p.tables e below G t := fun t k => K19 t (st20 _ k)
    obtain ⟨T29, h29, X29, e29, W29, st29⟩ := putF X20 hx hZ hown (host := "") (Or.inl (hw _ (List.mem_of_getElem? (i := 20) rfl))) Via.refl rfl f23 f22 (Or.inl (hw _ (List.mem_of_getElem? (i := 21) rfl))) (hw _ (List.mem_of_getElem? (i := 12) rfl)) (ty := (.array .char)) (by decide) rfl rfl (g := (mkF m 42 #[.val (.ref a1), .val (.int p1)] [(.ref b20), (.ref a1)])) rfl rfl (hb hby d18_42)
    have K30 : ∀ t, Steps p.tables e below (T29.setTop (mkF m 45 #[.val (.ref a1), .val (.int p1)] [])) t → Steps p.tables e below G t := fun t k => K28 t (st29 t k)
    have f31 := f22.wr W29
    have f32 := f23.same W29
    have f33 := f24.other W29 (Or.inr (slot_ne (Or.inl (hw _ (List.mem_of_getElem? (i := 84) rfl))) (Or.inl (hw _ (List.mem_of_getElem? (i := 21) rfl))) (by decide) (t := .int) (t' := (.array .char)) (by decide) (by decide)))
    have f34 := f25.other W29 (Ne.symm ne12)
    have f35 := Vb20.other W29 (Ne.symm ne_a1_b20)
    have Z36 : n0 ≤ h29.size := Nat.le_trans Z26 (Keep.of_wr W29).1
    have KP37 : Keep h0 h29 [a1] := KP27.wr W29 (Or.inl (List.mem_of_getElem? (i := 0) rfl))
    have N38 := Fr.snoc X29 N21 g1
    obtain ⟨fs, hr, hrun, hended, hW, hsame⟩ := X29.leave (v := none) (fun _ => rfl)
    have KF := K30
    rw [hG] at KF
    refine ⟨_, _, KF _ ?_, hrun, hended, _, _, rfl, ?_, ⟨_, rfl⟩, hW, hsame.mono (by decide) (by decide)⟩
    · show Steps p.tables e below (T29.setTop (mkF m 45 #[.val (.ref a1), .val (.int p1)] [])) _
      exact X29.returnOut hx Bd.returns (hb hby d18_45) hr
    · show Q18 Z a1 b2 p1 z mL vs h0 n0 _ T29.heap _
      rw [e29]
      exact ⟨_, _, _, _, rfl, N38, KP37, Or.inr sz20, f31, f32, f33, f35, ⟨hnl.2.2.2.1, hnl.2.2.2.2⟩, hc20⟩
  · obtain ⟨fs, hr, hrun, hended, hW, hsame⟩ := X2.leave (v := none) (fun _ => rfl)
    have KF := K5
    rw [hG] at KF
    refine ⟨_, _, KF _ ?_, hrun, hended, _, _, rfl, ?_, ⟨_, rfl⟩, hW, hsame.mono (by decide) (by decide)⟩
    · refine XS.icmpYes X2.here hx rfl (pc0 := 20) (pc' := 45) rfl (hb hby d18_20) rfl (flt hc6).2.2.2 (by decide) (by decide) ?_
      show Steps p.tables e below (T2.setTop (mkF m 45 #[.val (.ref a1), .val (.int p1)] [])) _
      exact X2.returnOut hx Bd.returns (hb hby d18_45) hr
    · show Q18 Z a1 b2 p1 z mL vs h0 n0 _ T2.heap _
      rw [e2]
      exact ⟨b2, k, z, vs, rfl, N0, KP0, Or.inl rfl, E1, F1, F2, V2, ⟨hc6, hz8⟩, fun _ _ => rfl⟩
def own_b0 (e : Int32) : Int32 := ((e >>> ((0 : Int32) &&& 31)).toInt8.toInt32).toInt8.toInt32
def own_b1 (e : Int32) : Int32 := ((e >>> ((8 : Int32) &&& 31)).toInt8.toInt32).toInt8.toInt32
def own_lb (e : Int32) : Int32 := (e.toInt8.toInt32).toInt8.toInt32
def own_g (a b : Int32) : Int32 := nar .char ((((a &&& (255 : Int32)) <<< ((0 : Int32) &&& 31)) ||| ((b &&& (255 : Int32)) <<< ((8 : Int32) &&& 31))).toUInt32.toUInt16.toUInt32.toInt32)
def own_gl (a : Int32) : Int32 := nar .char ((a &&& (255 : Int32)).toUInt32.toUInt16.toUInt32.toInt32)
theorem own_nc (x : Int32) : ((nar .char x).toInt - x.toInt) % 65536 = 0 ∧ 0 ≤ (nar .char x).toInt ∧ (nar .char x).toInt < 65536 := c_i2c x
theorem own_gc {e : Int32} (h : 0 ≤ e.toInt ∧ e.toInt < 65536) : own_g (own_b0 e) (own_b1 e) = e := by
  have a1 := c_i2b (e >>> ((0 : Int32) &&& 31)); have a2 := c_i2b ((e >>> ((0 : Int32) &&& 31)).toInt8.toInt32); have a3 := c_ishr e 0 0 (by decide)
  have b1 := c_i2b (e >>> ((8 : Int32) &&& 31)); have b2 := c_i2b ((e >>> ((8 : Int32) &&& 31)).toInt8.toInt32); have b3 := c_ishr e 8 8 (by decide)
  have m1 := c_mask (own_b0 e) 255 8 (by decide) (by decide); have m2 := c_mask (own_b1 e) 255 8 (by decide) (by decide)
  have s1 := c_ishl (own_b0 e &&& 255) 0 0 (by decide); have s2 := c_ishl (own_b1 e &&& 255) 8 8 (by decide)
  have r1 := rng32 ((own_b0 e &&& 255) <<< ((0 : Int32) &&& 31)); have r2 := rng32 ((own_b1 e &&& 255) <<< ((8 : Int32) &&& 31))
  have p0 : ((2 ^ 0 : Nat) : Int) = 1 := rfl
  have p8 : ((2 ^ 8 : Nat) : Int) = 256 := rfl
  rw [p0] at a3 s1; rw [p8] at b3 m1 m2 s2
  change ((own_b0 e).toInt - _) % 256 = 0 ∧ _ at a2
  change ((own_b1 e).toInt - _) % 256 = 0 ∧ _ at b2
  have l1 : ((own_b0 e &&& 255) <<< ((0 : Int32) &&& 31)).toInt = e.toInt % 256 := by omega
  have l2 : ((own_b1 e &&& 255) <<< ((8 : Int32) &&& 31)).toInt = e.toInt / 256 * 256 := by omega
  have o := c_or' ((own_b0 e &&& 255) <<< ((0 : Int32) &&& 31)) ((own_b1 e &&& 255) <<< ((8 : Int32) &&& 31)) 8 (by decide) 256 rfl (by omega) (by omega) (by omega)
  have ro := rng32 (((own_b0 e &&& 255) <<< ((0 : Int32) &&& 31)) ||| ((own_b1 e &&& 255) <<< ((8 : Int32) &&& 31)))
  have i1 := c_i2c (((own_b0 e &&& 255) <<< ((0 : Int32) &&& 31)) ||| ((own_b1 e &&& 255) <<< ((8 : Int32) &&& 31)))
  have i2 := own_nc ((((own_b0 e &&& 255) <<< ((0 : Int32) &&& 31)) ||| ((own_b1 e &&& 255) <<< ((8 : Int32) &&& 31))).toUInt32.toUInt16.toUInt32.toInt32)
  apply Int32.toInt_inj.mp
  show (nar .char _).toInt = _
  omega
theorem own_lc {e : Int32} (h : 0 ≤ e.toInt ∧ e.toInt < 65536) (h2 : ¬ (255 : Int32) < e) : own_gl (own_lb e) = e := by
  have z : (255 : Int32).toInt = 255 := rfl
  rw [Int32.lt_iff_toInt_lt] at h2
  have a1 := c_i2b e; have a2 := c_i2b e.toInt8.toInt32
  have m1 := c_mask (own_lb e) 255 8 (by decide) (by decide)
  have p8 : ((2 ^ 8 : Nat) : Int) = 256 := rfl
  rw [p8] at m1
  change ((own_lb e).toInt - _) % 256 = 0 ∧ _ at a2
  have i1 := c_i2c (own_lb e &&& 255)
  have i2 := own_nc ((own_lb e &&& 255).toUInt32.toUInt16.toUInt32.toInt32)
  apply Int32.toInt_inj.mp
  show (nar .char _).toInt = _
  omega
theorem own_id {e : Int32} (h : 0 ≤ e.toInt ∧ e.toInt < 65536) : nar .char e = e := by
  have a := own_nc e; apply Int32.toInt_inj.mp; omega
def own_sp (z co : Int32) (vs : List Value) (ee0 ee1 ee2 ee3 : Int32) : Prop := (co = 0 ∧ z = 4 ∧ vs = [(.int (own_lb ee0)), (.int (own_lb ee1)), (.int (own_lb ee2)), (.int (own_lb ee3))] ∧ (¬ (255 : Int32) < ee0 ∧ ¬ (255 : Int32) < ee1 ∧ ¬ (255 : Int32) < ee2 ∧ ¬ (255 : Int32) < ee3)) ∨ (co = 1 ∧ z = 8 ∧ vs = [(.int (own_b0 ee0)), (.int (own_b1 ee0)), (.int (own_b0 ee1)), (.int (own_b1 ee1)), (.int (own_b0 ee2)), (.int (own_b1 ee2)), (.int (own_b0 ee3)), (.int (own_b1 ee3))])
theorem own_c26 {z : Int32} (h : ¬ z < 4) : ¬ ((z ||| (0 : Int32)) ||| (4 : Int32)) < 0 ∧ ¬ (z - (0 : Int32)) < 4 := by
  have z0 : (0 : Int32).toInt = 0 := rfl
  have z4 : (4 : Int32).toInt = 4 := rfl
  simp only [Int32.lt_iff_toInt_lt] at *
  have a := (c_orS z 0).1 (by omega) (by omega); have b := (c_orS (z ||| 0) 4).1 a (by omega)
  have c := c_isub z 0; have r := rng32 (z - 0); have r2 := rng32 z
  omega
theorem own_set4 (l : List Value) (h : 16 ≤ l.length) (d v0 v1 v2 v3 : Value) : ((((l.set 0 v0).set 1 v1).set 2 v2).set 3 v3).getD 0 d = v0 ∧ ((((l.set 0 v0).set 1 v1).set 2 v2).set 3 v3).getD 1 d = v1 ∧ ((((l.set 0 v0).set 1 v1).set 2 v2).set 3 v3).getD 2 d = v2 ∧ ((((l.set 0 v0).set 1 v1).set 2 v2).set 3 v3).getD 3 d = v3 := by
  match l, h with
  | a :: b :: c :: e :: r, _ => exact ⟨rfl, rfl, rfl, rfl⟩
def Q26_n (p3 : Int32) (h0 : Heap) (n0 : Nat) (v : Option Value) (h : Heap) (L : List Loc) : Prop := v = some (.int (0 : Int32)) ∧ Fr n0 L ∧ h = h0
theorem d26_0 : decode jdk_41_method_13_code 0 = .ok (.iload_n 2, 1) := by decide +kernel
theorem d26_1 : decode jdk_41_method_13_code 1 = .ok (.iload_n 0, 1) := by decide +kernel
theorem d26_2 : decode jdk_41_method_13_code 2 = .ok (.ior, 1) := by decide +kernel
theorem d26_3 : decode jdk_41_method_13_code 3 = .ok (.iload_n 1, 1) := by decide +kernel
theorem d26_4 : decode jdk_41_method_13_code 4 = .ok (.ior, 1) := by decide +kernel
theorem d26_5 : decode jdk_41_method_13_code 5 = .ok (.ifCond .lt 10, 3) := by decide +kernel
theorem d26_8 : decode jdk_41_method_13_code 8 = .ok (.iload_n 1, 1) := by decide +kernel
theorem d26_9 : decode jdk_41_method_13_code 9 = .ok (.iload_n 2, 1) := by decide +kernel
theorem d26_10 : decode jdk_41_method_13_code 10 = .ok (.iload_n 0, 1) := by decide +kernel
theorem d26_11 : decode jdk_41_method_13_code 11 = .ok (.isub, 1) := by decide +kernel
theorem d26_12 : decode jdk_41_method_13_code 12 = .ok (.if_icmp .le 11, 3) := by decide +kernel
theorem d26_15 : decode jdk_41_method_13_code 15 = .ok (.aload_n 3, 1) := by decide +kernel
theorem d26_16 : decode jdk_41_method_13_code 16 = .ok (.iload_n 0, 1) := by decide +kernel
theorem d26_17 : decode jdk_41_method_13_code 17 = .ok (.iload_n 1, 1) := by decide +kernel
theorem d26_18 : decode jdk_41_method_13_code 18 = .ok (.iload_n 2, 1) := by decide +kernel
theorem d26_19 : decode jdk_41_method_13_code 19 = .ok (.invokestatic 103, 3) := by decide +kernel
theorem d26_22 : decode jdk_41_method_13_code 22 = .ok (.athrow, 1) := by decide +kernel
theorem d26_23 : decode jdk_41_method_13_code 23 = .ok (.iload_n 0, 1) := by decide +kernel
theorem d26_24 : decode jdk_41_method_13_code 24 = .ok (.ireturn, 1) := by decide +kernel
theorem pn_jdk_internal_util_Preconditions : plainName "jdk/internal/util/Preconditions" = true := by first | (simp [plainName, overriddenIn]; done) | decide +kernel
theorem ef_rm26_n (m : MethodId) (x2 : Int32) : entryFrame m #[(.int (0 : Int32)), (.int (4 : Int32)), (.int x2), .null] 4 = mkF m 0 #[.val (.int (0 : Int32)), .val (.int (4 : Int32)), .val (.int x2), .val .null] [] := by first | (simp [entryFrame, mkF, argsToLocals, Value.category]; done) | rfl
set_option maxRecDepth 65536 in
set_option maxHeartbeats 40000000 in
theorem rm26_n (l : Launch) (Z : State) (a0 : Array Value) (hw : ∀ d ∈ tables_1, d.before a0 Z = true) (ws : List Jvm.Cond) (p3 : Int32) (h0 : Heap) (n0 : Nat) (Z0 : n0 ≤ h0.size) (hq3 : ¬ p3 < 4) :
    MetFree l (⟨"jdk/internal/util/Preconditions", "checkFromIndexSize", "(IIILjava/util/function/BiFunction;)I"⟩ : MethodName) (head1 (Jvm.Cond.code (⟨"jdk/internal/util/Preconditions", "checkFromIndexSize", "(IIILjava/util/function/BiFunction;)I"⟩ : MethodName) jdk_41_method_13_code 4 (some .int) :: ws) ({ frames := 0, cells := 0, slots := 0, locals := 0 } : Room)) (fun a U => a = #[(.int (0 : Int32)), (.int (4 : Int32)), (.int p3), .null] ∧ Z.Warmed39 U.vm ∧ U.heap = h0) (fun _ _ _ _ _ => True) (fun _ U o U' => ∃ v L, o = .returned v ∧ Q26_n p3 h0 n0 v U'.heap L ∧ FrameEnd U o U' L ({ frames := 0, cells := 0, slots := 0, locals := 0 } : Room).cells ({ frames := 0, cells := 0, slots := 0, locals := 0 } : Room).slots) := by
  refine MetFree.of_bodySF (plainFor_of_name pn_jdk_internal_util_Preconditions) hisR ?_
  intro p e s m args below meth c s₁ Bd hml0 hP hK
  obtain ⟨rfl, hZ, hh⟩ := hP
  have hx := Bd.exec
  have hby := Bd.bytes
  have hml : c.maxLocals = 4 := hml0
  have hown : s.vm.findClass "jdk/internal/util/Preconditions" = some m.cls := findClass_of_methodNamed Bd.named
  have hnm := (name_of_methodNamed Bd.named Bd.method).1
  have X0 : Stand p l e ({ frames := 0, cells := 0, slots := 0, locals := 0 } : Room) s m #[(.int (0 : Int32)), (.int (4 : Int32)), (.int p3), .null] below meth c s₁ [] 0 0 := Stand.of_body Bd
  have e0 : s₁.heap = h0 := by rw [← hh, Bd.state]; rfl
  have N0 := Fr.nil n0
  have KP0 : Keep h0 h0 [] := Keep.refl h0 _
  obtain ⟨G, hG⟩ : ∃ G : State, G = s₁.setTop (entryFrame m #[(.int (0 : Int32)), (.int (4 : Int32)), (.int p3), .null] 4) := ⟨_, rfl⟩
  have pre0 : ∀ t, Steps p.tables e below (s₁.setTop (mkF m 0 #[.val (.int (0 : Int32)), .val (.int (4 : Int32)), .val (.int p3), .val .null] [])) t → Steps p.tables e below G t := fun t k => hG ▸ castTop (ef_rm26_n m p3) k
  obtain ⟨hor, hle⟩ := own_c26 hq3
  obtain ⟨fs, hr, hrun, hended, hW, hsame⟩ := X0.leave (v := some (.int (0 : Int32))) (fun h => by rw [Bd.returns] at h; cases h)
  have KF := pre0
  rw [hG] at KF
  refine ⟨_, _, KF _ ?_, hrun, hended, _, _, rfl, ?_, ⟨_, rfl⟩, hW, hsame.mono (by decide) (by decide)⟩
  · refine XS.iloadN X0.here hx rfl (hb hby d26_0) rfl ?_
    refine XS.iloadN X0.here hx rfl (hb hby d26_1) rfl ?_
    refine XS.ior X0.here hx rfl (hb hby d26_2) rfl ?_
    refine XS.iloadN X0.here hx rfl (hb hby d26_3) rfl ?_
    refine XS.ior X0.here hx rfl (hb hby d26_4) rfl ?_
    refine XS.ifNo X0.here hx rfl (hb hby d26_5) rfl ((if0 _ _).trans (flt hor).1) ?_
    refine XS.iloadN X0.here hx rfl (hb hby d26_8) rfl ?_
    refine XS.iloadN X0.here hx rfl (hb hby d26_9) rfl ?_
    refine XS.iloadN X0.here hx rfl (hb hby d26_10) rfl ?_
    refine XS.isub X0.here hx rfl (hb hby d26_11) rfl ?_
    refine XS.icmpYes X0.here hx rfl (pc0 := 12) (pc' := 23) rfl (hb hby d26_12) rfl (flt hle).2.2.2 (by decide) (by decide) ?_
    refine XS.iloadN X0.here hx rfl (hb hby d26_23) rfl ?_
    show Steps p.tables e below (s₁.setTop (mkF m 24 #[.val (.int (0 : Int32)), .val (.int (4 : Int32)), .val (.int p3), .val .null] [(.int (0 : Int32))])) _
    exact own_retI X0 hx Bd.returns (hb hby d26_24) hr
  · show Q26_n p3 h0 n0 _ s₁.heap _
    rw [e0]
    exact ⟨rfl, N0, rfl⟩
def Q24_n (_u : Unit) (h0 : Heap) (n0 : Nat) (v : Option Value) (h : Heap) (L : List Loc) : Prop := v = some (.int (0 : Int32)) ∧ Fr n0 L ∧ h = h0
theorem d24_0 : decode jdk_41_method_12_code 0 = .ok (.iload_n 0, 1) := by decide +kernel
theorem d24_1 : decode jdk_41_method_12_code 1 = .ok (.ifCond .lt 13, 3) := by decide +kernel
theorem d24_4 : decode jdk_41_method_12_code 4 = .ok (.iload_n 0, 1) := by decide +kernel
theorem d24_5 : decode jdk_41_method_12_code 5 = .ok (.iload_n 1, 1) := by decide +kernel
theorem d24_6 : decode jdk_41_method_12_code 6 = .ok (.if_icmp .gt 8, 3) := by decide +kernel
theorem d24_9 : decode jdk_41_method_12_code 9 = .ok (.iload_n 1, 1) := by decide +kernel
theorem d24_10 : decode jdk_41_method_12_code 10 = .ok (.iload_n 2, 1) := by decide +kernel
theorem d24_11 : decode jdk_41_method_12_code 11 = .ok (.if_icmp .le 11, 3) := by decide +kernel
theorem d24_14 : decode jdk_41_method_12_code 14 = .ok (.aload_n 3, 1) := by decide +kernel
theorem d24_15 : decode jdk_41_method_12_code 15 = .ok (.iload_n 0, 1) := by decide +kernel
theorem d24_16 : decode jdk_41_method_12_code 16 = .ok (.iload_n 1, 1) := by decide +kernel
theorem d24_17 : decode jdk_41_method_12_code 17 = .ok (.iload_n 2, 1) := by decide +kernel
theorem d24_18 : decode jdk_41_method_12_code 18 = .ok (.invokestatic 99, 3) := by decide +kernel
theorem d24_21 : decode jdk_41_method_12_code 21 = .ok (.athrow, 1) := by decide +kernel
theorem d24_22 : decode jdk_41_method_12_code 22 = .ok (.iload_n 0, 1) := by decide +kernel
theorem d24_23 : decode jdk_41_method_12_code 23 = .ok (.ireturn, 1) := by decide +kernel
theorem ef_rm24_n (m : MethodId)  : entryFrame m #[(.int (0 : Int32)), (.int (4 : Int32)), (.int (4 : Int32)), .null] 4 = mkF m 0 #[.val (.int (0 : Int32)), .val (.int (4 : Int32)), .val (.int (4 : Int32)), .val .null] [] := by first | (simp [entryFrame, mkF, argsToLocals, Value.category]; done) | rfl
set_option maxRecDepth 65536 in
set_option maxHeartbeats 40000000 in
theorem rm24_n (l : Launch) (Z : State) (a0 : Array Value) (hw : ∀ d ∈ tables_1, d.before a0 Z = true) (ws : List Jvm.Cond) (_u : Unit) (h0 : Heap) (n0 : Nat) (Z0 : n0 ≤ h0.size) :
    MetFree l (⟨"jdk/internal/util/Preconditions", "checkFromToIndex", "(IIILjava/util/function/BiFunction;)I"⟩ : MethodName) (head1 (Jvm.Cond.code (⟨"jdk/internal/util/Preconditions", "checkFromToIndex", "(IIILjava/util/function/BiFunction;)I"⟩ : MethodName) jdk_41_method_12_code 4 (some .int) :: ws) ({ frames := 0, cells := 0, slots := 0, locals := 0 } : Room)) (fun a U => a = #[(.int (0 : Int32)), (.int (4 : Int32)), (.int (4 : Int32)), .null] ∧ Z.Warmed39 U.vm ∧ U.heap = h0) (fun _ _ _ _ _ => True) (fun _ U o U' => ∃ v L, o = .returned v ∧ Q24_n _u h0 n0 v U'.heap L ∧ FrameEnd U o U' L ({ frames := 0, cells := 0, slots := 0, locals := 0 } : Room).cells ({ frames := 0, cells := 0, slots := 0, locals := 0 } : Room).slots) := by
  refine MetFree.of_bodySF (plainFor_of_name pn_jdk_internal_util_Preconditions) hisR ?_
  intro p e s m args below meth c s₁ Bd hml0 hP hK
  obtain ⟨rfl, hZ, hh⟩ := hP
  have hx := Bd.exec
  have hby := Bd.bytes
  have hml : c.maxLocals = 4 := hml0
  have hown : s.vm.findClass "jdk/internal/util/Preconditions" = some m.cls := findClass_of_methodNamed Bd.named
  have hnm := (name_of_methodNamed Bd.named Bd.method).1
  have X0 : Stand p l e ({ frames := 0, cells := 0, slots := 0, locals := 0 } : Room) s m #[(.int (0 : Int32)), (.int (4 : Int32)), (.int (4 : Int32)), .null] below meth c s₁ [] 0 0 := Stand.of_body Bd
  have e0 : s₁.heap = h0 := by rw [← hh, Bd.state]; rfl
  have N0 := Fr.nil n0
  have KP0 : Keep h0 h0 [] := Keep.refl h0 _
  obtain ⟨G, hG⟩ : ∃ G : State, G = s₁.setTop (entryFrame m #[(.int (0 : Int32)), (.int (4 : Int32)), (.int (4 : Int32)), .null] 4) := ⟨_, rfl⟩
  have pre0 : ∀ t, Steps p.tables e below (s₁.setTop (mkF m 0 #[.val (.int (0 : Int32)), .val (.int (4 : Int32)), .val (.int (4 : Int32)), .val .null] [])) t → Steps p.tables e below G t := fun t k => hG ▸ castTop (ef_rm24_n m ) k
  obtain ⟨fs, hr, hrun, hended, hW, hsame⟩ := X0.leave (v := some (.int (0 : Int32))) (fun h => by rw [Bd.returns] at h; cases h)
  have KF := pre0
  rw [hG] at KF
  refine ⟨_, _, KF _ ?_, hrun, hended, _, _, rfl, ?_, ⟨_, rfl⟩, hW, hsame.mono (by decide) (by decide)⟩
  · refine XS.iloadN X0.here hx rfl (hb hby d24_0) rfl ?_
    refine XS.ifNo X0.here hx rfl (hb hby d24_1) rfl ((if0 _ _).trans (flt (by decide)).1) ?_
    refine XS.iloadN X0.here hx rfl (hb hby d24_4) rfl ?_
    refine XS.iloadN X0.here hx rfl (hb hby d24_5) rfl ?_
    refine XS.icmpNo X0.here hx rfl (hb hby d24_6) rfl (flt (by decide)).2.2.1 ?_
    refine XS.iloadN X0.here hx rfl (hb hby d24_9) rfl ?_
    refine XS.iloadN X0.here hx rfl (hb hby d24_10) rfl ?_
    refine XS.icmpYes X0.here hx rfl (pc0 := 11) (pc' := 22) rfl (hb hby d24_11) rfl (flt (by decide)).2.2.2 (by decide) (by decide) ?_
    refine XS.iloadN X0.here hx rfl (hb hby d24_22) rfl ?_
    show Steps p.tables e below (s₁.setTop (mkF m 23 #[.val (.int (0 : Int32)), .val (.int (4 : Int32)), .val (.int (4 : Int32)), .val .null] [(.int (0 : Int32))])) _
    exact own_retI X0 hx Bd.returns (hb hby d24_23) hr
  · show Q24_n _u h0 n0 _ s₁.heap _
    rw [e0]
    exact ⟨rfl, N0, rfl⟩
def Q26_r (p3 : Int32) (af : Addr) (h0 : Heap) (n0 : Nat) (v : Option Value) (h : Heap) (L : List Loc) : Prop := v = some (.int (0 : Int32)) ∧ Fr n0 L ∧ h = h0
theorem ef_rm26_r (m : MethodId) (x2 : Int32) (x3 : Addr) : entryFrame m #[(.int (0 : Int32)), (.int (4 : Int32)), (.int x2), (.ref x3)] 4 = mkF m 0 #[.val (.int (0 : Int32)), .val (.int (4 : Int32)), .val (.int x2), .val (.ref x3)] [] := by first | (simp [entryFrame, mkF, argsToLocals, Value.category]; done) | rfl
set_option maxRecDepth 65536 in
set_option maxHeartbeats 40000000 in
theorem rm26_r (l : Launch) (Z : State) (a0 : Array Value) (hw : ∀ d ∈ tables_1, d.before a0 Z = true) (ws : List Jvm.Cond) (p3 : Int32) (af : Addr) (h0 : Heap) (n0 : Nat) (Z0 : n0 ≤ h0.size) (hq3 : ¬ p3 < 4) :
    MetFree l (⟨"jdk/internal/util/Preconditions", "checkFromIndexSize", "(IIILjava/util/function/BiFunction;)I"⟩ : MethodName) (head1 (Jvm.Cond.code (⟨"jdk/internal/util/Preconditions", "checkFromIndexSize", "(IIILjava/util/function/BiFunction;)I"⟩ : MethodName) jdk_41_method_13_code 4 (some .int) :: ws) ({ frames := 0, cells := 0, slots := 0, locals := 0 } : Room)) (fun a U => a = #[(.int (0 : Int32)), (.int (4 : Int32)), (.int p3), (.ref af)] ∧ Z.Warmed39 U.vm ∧ U.heap = h0) (fun _ _ _ _ _ => True) (fun _ U o U' => ∃ v L, o = .returned v ∧ Q26_r p3 af h0 n0 v U'.heap L ∧ FrameEnd U o U' L ({ frames := 0, cells := 0, slots := 0, locals := 0 } : Room).cells ({ frames := 0, cells := 0, slots := 0, locals := 0 } : Room).slots) := by
  refine MetFree.of_bodySF (plainFor_of_name pn_jdk_internal_util_Preconditions) hisR ?_
  intro p e s m args below meth c s₁ Bd hml0 hP hK
  obtain ⟨rfl, hZ, hh⟩ := hP
  have hx := Bd.exec
  have hby := Bd.bytes
  have hml : c.maxLocals = 4 := hml0
  have hown : s.vm.findClass "jdk/internal/util/Preconditions" = some m.cls := findClass_of_methodNamed Bd.named
  have hnm := (name_of_methodNamed Bd.named Bd.method).1
  have X0 : Stand p l e ({ frames := 0, cells := 0, slots := 0, locals := 0 } : Room) s m #[(.int (0 : Int32)), (.int (4 : Int32)), (.int p3), (.ref af)] below meth c s₁ [] 0 0 := Stand.of_body Bd
  have e0 : s₁.heap = h0 := by rw [← hh, Bd.state]; rfl
  have N0 := Fr.nil n0
  have KP0 : Keep h0 h0 [] := Keep.refl h0 _
  obtain ⟨G, hG⟩ : ∃ G : State, G = s₁.setTop (entryFrame m #[(.int (0 : Int32)), (.int (4 : Int32)), (.int p3), (.ref af)] 4) := ⟨_, rfl⟩
  have pre0 : ∀ t, Steps p.tables e below (s₁.setTop (mkF m 0 #[.val (.int (0 : Int32)), .val (.int (4 : Int32)), .val (.int p3), .val (.ref af)] [])) t → Steps p.tables e below G t := fun t k => hG ▸ castTop (ef_rm26_r m p3 af) k
  obtain ⟨hor, hle⟩ := own_c26 hq3
  obtain ⟨fs, hr, hrun, hended, hW, hsame⟩ := X0.leave (v := some (.int (0 : Int32))) (fun h => by rw [Bd.returns] at h; cases h)
  have KF := pre0
  rw [hG] at KF
  refine ⟨_, _, KF _ ?_, hrun, hended, _, _, rfl, ?_, ⟨_, rfl⟩, hW, hsame.mono (by decide) (by decide)⟩
  · refine XS.iloadN X0.here hx rfl (hb hby d26_0) rfl ?_
    refine XS.iloadN X0.here hx rfl (hb hby d26_1) rfl ?_
    refine XS.ior X0.here hx rfl (hb hby d26_2) rfl ?_
    refine XS.iloadN X0.here hx rfl (hb hby d26_3) rfl ?_
    refine XS.ior X0.here hx rfl (hb hby d26_4) rfl ?_
    refine XS.ifNo X0.here hx rfl (hb hby d26_5) rfl ((if0 _ _).trans (flt hor).1) ?_
    refine XS.iloadN X0.here hx rfl (hb hby d26_8) rfl ?_
    refine XS.iloadN X0.here hx rfl (hb hby d26_9) rfl ?_
    refine XS.iloadN X0.here hx rfl (hb hby d26_10) rfl ?_
    refine XS.isub X0.here hx rfl (hb hby d26_11) rfl ?_
    refine XS.icmpYes X0.here hx rfl (pc0 := 12) (pc' := 23) rfl (hb hby d26_12) rfl (flt hle).2.2.2 (by decide) (by decide) ?_
    refine XS.iloadN X0.here hx rfl (hb hby d26_23) rfl ?_
    show Steps p.tables e below (s₁.setTop (mkF m 24 #[.val (.int (0 : Int32)), .val (.int (4 : Int32)), .val (.int p3), .val (.ref af)] [(.int (0 : Int32))])) _
    exact own_retI X0 hx Bd.returns (hb hby d26_24) hr
  · show Q26_r p3 af h0 n0 _ s₁.heap _
    rw [e0]
    exact ⟨rfl, N0, rfl⟩
def Q24_r  (af : Addr) (h0 : Heap) (n0 : Nat) (v : Option Value) (h : Heap) (L : List Loc) : Prop := v = some (.int (0 : Int32)) ∧ Fr n0 L ∧ h = h0
theorem ef_rm24_r (m : MethodId) (x3 : Addr) : entryFrame m #[(.int (0 : Int32)), (.int (4 : Int32)), (.int (4 : Int32)), (.ref x3)] 4 = mkF m 0 #[.val (.int (0 : Int32)), .val (.int (4 : Int32)), .val (.int (4 : Int32)), .val (.ref x3)] [] := by first | (simp [entryFrame, mkF, argsToLocals, Value.category]; done) | rfl
set_option maxRecDepth 65536 in
set_option maxHeartbeats 40000000 in
theorem rm24_r (l : Launch) (Z : State) (a0 : Array Value) (hw : ∀ d ∈ tables_1, d.before a0 Z = true) (ws : List Jvm.Cond)  (af : Addr) (h0 : Heap) (n0 : Nat) (Z0 : n0 ≤ h0.size) :
    MetFree l (⟨"jdk/internal/util/Preconditions", "checkFromToIndex", "(IIILjava/util/function/BiFunction;)I"⟩ : MethodName) (head1 (Jvm.Cond.code (⟨"jdk/internal/util/Preconditions", "checkFromToIndex", "(IIILjava/util/function/BiFunction;)I"⟩ : MethodName) jdk_41_method_12_code 4 (some .int) :: ws) ({ frames := 0, cells := 0, slots := 0, locals := 0 } : Room)) (fun a U => a = #[(.int (0 : Int32)), (.int (4 : Int32)), (.int (4 : Int32)), (.ref af)] ∧ Z.Warmed39 U.vm ∧ U.heap = h0) (fun _ _ _ _ _ => True) (fun _ U o U' => ∃ v L, o = .returned v ∧ Q24_r af h0 n0 v U'.heap L ∧ FrameEnd U o U' L ({ frames := 0, cells := 0, slots := 0, locals := 0 } : Room).cells ({ frames := 0, cells := 0, slots := 0, locals := 0 } : Room).slots) := by
  refine MetFree.of_bodySF (plainFor_of_name pn_jdk_internal_util_Preconditions) hisR ?_
  intro p e s m args below meth c s₁ Bd hml0 hP hK
  obtain ⟨rfl, hZ, hh⟩ := hP
  have hx := Bd.exec
  have hby := Bd.bytes
  have hml : c.maxLocals = 4 := hml0
  have hown : s.vm.findClass "jdk/internal/util/Preconditions" = some m.cls := findClass_of_methodNamed Bd.named
  have hnm := (name_of_methodNamed Bd.named Bd.method).1
  have X0 : Stand p l e ({ frames := 0, cells := 0, slots := 0, locals := 0 } : Room) s m #[(.int (0 : Int32)), (.int (4 : Int32)), (.int (4 : Int32)), (.ref af)] below meth c s₁ [] 0 0 := Stand.of_body Bd
  have e0 : s₁.heap = h0 := by rw [← hh, Bd.state]; rfl
  have N0 := Fr.nil n0
  have KP0 : Keep h0 h0 [] := Keep.refl h0 _
  obtain ⟨G, hG⟩ : ∃ G : State, G = s₁.setTop (entryFrame m #[(.int (0 : Int32)), (.int (4 : Int32)), (.int (4 : Int32)), (.ref af)] 4) := ⟨_, rfl⟩
  have pre0 : ∀ t, Steps p.tables e below (s₁.setTop (mkF m 0 #[.val (.int (0 : Int32)), .val (.int (4 : Int32)), .val (.int (4 : Int32)), .val (.ref af)] [])) t → Steps p.tables e below G t := fun t k => hG ▸ castTop (ef_rm24_r m af) k
  obtain ⟨fs, hr, hrun, hended, hW, hsame⟩ := X0.leave (v := some (.int (0 : Int32))) (fun h => by rw [Bd.returns] at h; cases h)
  have KF := pre0
  rw [hG] at KF
  refine ⟨_, _, KF _ ?_, hrun, hended, _, _, rfl, ?_, ⟨_, rfl⟩, hW, hsame.mono (by decide) (by decide)⟩
  · refine XS.iloadN X0.here hx rfl (hb hby d24_0) rfl ?_
    refine XS.ifNo X0.here hx rfl (hb hby d24_1) rfl ((if0 _ _).trans (flt (by decide)).1) ?_
    refine XS.iloadN X0.here hx rfl (hb hby d24_4) rfl ?_
    refine XS.iloadN X0.here hx rfl (hb hby d24_5) rfl ?_
    refine XS.icmpNo X0.here hx rfl (hb hby d24_6) rfl (flt (by decide)).2.2.1 ?_
    refine XS.iloadN X0.here hx rfl (hb hby d24_9) rfl ?_
    refine XS.iloadN X0.here hx rfl (hb hby d24_10) rfl ?_
    refine XS.icmpYes X0.here hx rfl (pc0 := 11) (pc' := 22) rfl (hb hby d24_11) rfl (flt (by decide)).2.2.2 (by decide) (by decide) ?_
    refine XS.iloadN X0.here hx rfl (hb hby d24_22) rfl ?_
    show Steps p.tables e below (s₁.setTop (mkF m 23 #[.val (.int (0 : Int32)), .val (.int (4 : Int32)), .val (.int (4 : Int32)), .val (.ref af)] [(.int (0 : Int32))])) _
    exact own_retI X0 hx Bd.returns (hb hby d24_23) hr
  · show Q24_r af h0 n0 _ s₁.heap _
    rw [e0]
    exact ⟨rfl, N0, rfl⟩
def Q25_c (p3 : Int32) (cs : Int32) (fv : Value) (h0 : Heap) (n0 : Nat) (v : Option Value) (h : Heap) (L : List Loc) : Prop := v = some (.int (0 : Int32)) ∧ Fr n0 L ∧ h = h0
theorem d25_0 : decode jdk_42_method_157_code 0 = .ok (.iload_n 0, 1) := by decide +kernel
theorem d25_1 : decode jdk_42_method_157_code 1 = .ok (.iload_n 1, 1) := by decide +kernel
theorem d25_2 : decode jdk_42_method_157_code 2 = .ok (.iload_n 2, 1) := by decide +kernel
theorem d25_3 : decode jdk_42_method_157_code 3 = .ok (.getstatic 1053, 3) := by decide +kernel
theorem d25_6 : decode jdk_42_method_157_code 6 = .ok (.invokestatic 1065, 3) := by decide +kernel
theorem d25_9 : decode jdk_42_method_157_code 9 = .ok (.ireturn, 1) := by decide +kernel
theorem pn_java_lang_String : plainName "java/lang/String" = true := by first | (simp [plainName, overriddenIn]; done) | decide +kernel
theorem pd_2 : parseMethodDescriptor "(IIILjava/util/function/BiFunction;)I" = some ⟨[.int, .int, .int, (.object "java/util/function/BiFunction")], some .int⟩ := by decide +kernel
theorem ef_rm25_c (m : MethodId) (x2 : Int32) : entryFrame m #[(.int (0 : Int32)), (.int (4 : Int32)), (.int x2)] 3 = mkF m 0 #[.val (.int (0 : Int32)), .val (.int (4 : Int32)), .val (.int x2)] [] := by first | (simp [entryFrame, mkF, argsToLocals, Value.category]; done) | rfl
set_option maxRecDepth 65536 in
set_option maxHeartbeats 40000000 in
theorem rm25_c (l : Launch) (Z : State) (a0 : Array Value) (hw : ∀ d ∈ tables_1, d.before a0 Z = true) (ws : List Jvm.Cond) (p3 : Int32) (cs : Int32) (fv : Value) (h0 : Heap) (n0 : Nat) (Z0 : n0 ≤ h0.size) (SC : Sta Z Z.heap "java/lang/String" "COMPACT_STRINGS" "Z" (.int cs)) (hcs : ¬ cs = 0) (SA : Sta Z Z.heap "java/lang/StringUTF16" "$assertionsDisabled" "Z" (.int (1 : Int32))) (SH : Sta Z Z.heap "java/lang/StringUTF16" "HI_BYTE_SHIFT" "I" (.int (0 : Int32))) (SL : Sta Z Z.heap "java/lang/StringUTF16" "LO_BYTE_SHIFT" "I" (.int (8 : Int32))) (SF : Sta Z Z.heap "jdk/internal/util/Preconditions" "SIOOBE_FORMATTER" "Ljava/util/function/BiFunction;" fv) (hfv : fv = .null ∨ ∃ a, fv = .ref a) (O0 : Old Z n0 h0) (hq3 : ¬ p3 < 4) :
    MetFree l (⟨"java/lang/String", "checkBoundsOffCount", "(III)I"⟩ : MethodName) (head1 (Jvm.Cond.code (⟨"java/lang/String", "checkBoundsOffCount", "(III)I"⟩ : MethodName) jdk_42_method_157_code 3 (some .int) :: ws) ({ frames := 1, cells := 0, slots := 0, locals := 15 } : Room)) (fun a U => a = #[(.int (0 : Int32)), (.int (4 : Int32)), (.int p3)] ∧ Z.Warmed39 U.vm ∧ U.heap = h0) (fun _ _ _ _ _ => True) (fun _ U o U' => ∃ v L, o = .returned v ∧ Q25_c p3 cs fv h0 n0 v U'.heap L ∧ FrameEnd U o U' L ({ frames := 1, cells := 0, slots := 0, locals := 15 } : Room).cells ({ frames := 1, cells := 0, slots := 0, locals := 15 } : Room).slots) := by
  refine MetFree.of_bodySF (plainFor_of_name pn_java_lang_String) hisR ?_
  intro p e s m args below meth c s₁ Bd hml0 hP hK
  obtain ⟨rfl, hZ, hh⟩ := hP
  have hx := Bd.exec
  have hby := Bd.bytes
  have hml : c.maxLocals = 3 := hml0
  have hown : s.vm.findClass "java/lang/String" = some m.cls := findClass_of_methodNamed Bd.named
  have hnm := (name_of_methodNamed Bd.named Bd.method).1
  have X0 : Stand p l e ({ frames := 1, cells := 0, slots := 0, locals := 15 } : Room) s m #[(.int (0 : Int32)), (.int (4 : Int32)), (.int p3)] below meth c s₁ [] 0 0 := Stand.of_body Bd
  have e0 : s₁.heap = h0 := by rw [← hh, Bd.state]; rfl
  have N0 := Fr.nil n0
  have KP0 : Keep h0 h0 [] := Keep.refl h0 _
  obtain ⟨G, hG⟩ : ∃ G : State, G = s₁.setTop (entryFrame m #[(.int (0 : Int32)), (.int (4 : Int32)), (.int p3)] 3) := ⟨_, rfl⟩
  have pre0 : ∀ t, Steps p.tables e below (s₁.setTop (mkF m 0 #[.val (.int (0 : Int32)), .val (.int (4 : Int32)), .val (.int p3)] [])) t → Steps p.tables e below G t := fun t k => hG ▸ castTop (ef_rm25_c m p3) k
  rcases hfv with rfl | ⟨af, rfl⟩
  · have K1 : ∀ t, Steps p.tables e below (s₁.setTop (mkF m 3 #[.val (.int (0 : Int32)), .val (.int (4 : Int32)), .val (.int p3)] [(.int p3), (.int (4 : Int32)), (.int (0 : Int32))])) t → Steps p.tables e below G t := by
      intro t k
      refine pre0 t ?_
      refine XS.iloadN X0.here hx rfl (hb hby d25_0) rfl ?_
      refine XS.iloadN X0.here hx rfl (hb hby d25_1) rfl ?_
      refine XS.iloadN X0.here hx rfl (hb hby d25_2) rfl ?_
      exact k
    obtain ⟨T2, X2, e2, st2⟩ := getS2 X0 hx hZ hown (host := "") (Or.inl (hw _ (List.mem_of_getElem? (i := 113) rfl))) Via.refl e0 (Sta.ext O0.2 SF) (g := (mkF m 3 #[.val (.int (0 : Int32)), .val (.int (4 : Int32)), .val (.int p3)] [(.int p3), (.int (4 : Int32)), (.int (0 : Int32))])) rfl (hb hby d25_3)
    have K3 : ∀ t, Steps p.tables e below (T2.setTop (mkF m 6 #[.val (.int (0 : Int32)), .val (.int (4 : Int32)), .val (.int p3)] [.null, (.int p3), (.int (4 : Int32)), (.int (0 : Int32))])) t → Steps p.tables e below G t := fun t k => K1 t (st2 t k)
    obtain ⟨_, _, ⟨T4, L4, kk4, nn4⟩, -, X4, ⟨Lc4, hQ4, lq4, yq4, zq4⟩, st4⟩ := Jvm.LawKit.callS X2 hx (y := (⟨"jdk/internal/util/Preconditions", "checkFromIndexSize", "(IIILjava/util/function/BiFunction;)I"⟩ : MethodName)) hown (mvT hZ (hw _ (List.mem_of_getElem? (i := 121) rfl))) (mvT hZ (hw _ (List.mem_of_getElem? (i := 122) rfl))) (mvT hZ (hw _ (List.mem_of_getElem? (i := 114) rfl))) (mvT hZ (hw _ (List.mem_of_getElem? (i := 123) rfl))) (by decide) (backOf (W := 0) (rm26_n l Z a0 hw [] p3 h0 n0 Z0 hq3) hZ (hw _ (List.mem_of_getElem? (i := 123) rfl)) (hw _ (List.mem_of_getElem? (i := 114) rfl)) (by decide) (by decide)) (g := (mkF m 6 #[.val (.int (0 : Int32)), .val (.int (4 : Int32)), .val (.int p3)] [.null, (.int p3), (.int (4 : Int32)), (.int (0 : Int32))])) rfl (by rw [hml]; rfl) (argsL := [(.int (0 : Int32)), (.int (4 : Int32)), (.int p3), .null]) (rest := []) (lenOf pd_2 rfl) rfl (by show 2 * 0 + _ ≤ _; exact Nat.le_of_eq rfl) (hb hby d25_6) (fun _ _ => ⟨rfl, e2, (by decide : 0 + 0 ≤ _), (by decide : 0 + 0 ≤ _)⟩)
    dsimp only [Pt.U, Pt.locs, Pt.cells, Pt.slots] at X4 lq4 yq4 zq4 st4 hQ4
    subst lq4 yq4 zq4
    obtain ⟨rfl, Nq4, e4⟩ := hQ4
    have N5 := Fr.app N0 Nq4
    have K6 : ∀ t, Steps p.tables e below (T4.setTop (mkF m 9 #[.val (.int (0 : Int32)), .val (.int (4 : Int32)), .val (.int p3)] [(.int (0 : Int32))])) t → Steps p.tables e below G t := fun t k => K3 t (st4 _ k)
    obtain ⟨fs, hr, hrun, hended, hW, hsame⟩ := X4.leave (v := some (.int (0 : Int32))) (fun h => by rw [Bd.returns] at h; cases h)
    have KF := K6
    rw [hG] at KF
    refine ⟨_, _, KF _ ?_, hrun, hended, _, _, rfl, ?_, ⟨_, rfl⟩, hW, hsame.mono (by decide) (by decide)⟩
    · show Steps p.tables e below (T4.setTop (mkF m 9 #[.val (.int (0 : Int32)), .val (.int (4 : Int32)), .val (.int p3)] [(.int (0 : Int32))])) _
      exact own_retI X4 hx Bd.returns (hb hby d25_9) hr
    · show Q25_c p3 cs Value.null h0 n0 _ T4.heap _
      rw [e4]
      exact ⟨rfl, N5, rfl⟩
  · have K7 : ∀ t, Steps p.tables e below (s₁.setTop (mkF m 3 #[.val (.int (0 : Int32)), .val (.int (4 : Int32)), .val (.int p3)] [(.int p3), (.int (4 : Int32)), (.int (0 : Int32))])) t → Steps p.tables e below G t := by
      intro t k
      refine pre0 t ?_
      refine XS.iloadN X0.here hx rfl (hb hby d25_0) rfl ?_
      refine XS.iloadN X0.here hx rfl (hb hby d25_1) rfl ?_
      refine XS.iloadN X0.here hx rfl (hb hby d25_2) rfl ?_
      exact k
    obtain ⟨T8, X8, e8, st8⟩ := getS2 X0 hx hZ hown (host := "") (Or.inl (hw _ (List.mem_of_getElem? (i := 113) rfl))) Via.refl e0 (Sta.ext O0.2 SF) (g := (mkF m 3 #[.val (.int (0 : Int32)), .val (.int (4 : Int32)), .val (.int p3)] [(.int p3), (.int (4 : Int32)), (.int (0 : Int32))])) rfl (hb hby d25_3)
    have K9 : ∀ t, Steps p.tables e below (T8.setTop (mkF m 6 #[.val (.int (0 : Int32)), .val (.int (4 : Int32)), .val (.int p3)] [(.ref af), (.int p3), (.int (4 : Int32)), (.int (0 : Int32))])) t → Steps p.tables e below G t := fun t k => K7 t (st8 t k)
    obtain ⟨_, _, ⟨T10, L10, kk10, nn10⟩, -, X10, ⟨Lc10, hQ10, lq10, yq10, zq10⟩, st10⟩ := Jvm.LawKit.callS X8 hx (y := (⟨"jdk/internal/util/Preconditions", "checkFromIndexSize", "(IIILjava/util/function/BiFunction;)I"⟩ : MethodName)) hown (mvT hZ (hw _ (List.mem_of_getElem? (i := 121) rfl))) (mvT hZ (hw _ (List.mem_of_getElem? (i := 122) rfl))) (mvT hZ (hw _ (List.mem_of_getElem? (i := 114) rfl))) (mvT hZ (hw _ (List.mem_of_getElem? (i := 123) rfl))) (by decide) (backOf (W := 0) (rm26_r l Z a0 hw [] p3 af h0 n0 Z0 hq3) hZ (hw _ (List.mem_of_getElem? (i := 123) rfl)) (hw _ (List.mem_of_getElem? (i := 114) rfl)) (by decide) (by decide)) (g := (mkF m 6 #[.val (.int (0 : Int32)), .val (.int (4 : Int32)), .val (.int p3)] [(.ref af), (.int p3), (.int (4 : Int32)), (.int (0 : Int32))])) rfl (by rw [hml]; rfl) (argsL := [(.int (0 : Int32)), (.int (4 : Int32)), (.int p3), (.ref af)]) (rest := []) (lenOf pd_2 rfl) rfl (by show 2 * 0 + _ ≤ _; exact Nat.le_of_eq rfl) (hb hby d25_6) (fun _ _ => ⟨rfl, e8, (by decide : 0 + 0 ≤ _), (by decide : 0 + 0 ≤ _)⟩)
    dsimp only [Pt.U, Pt.locs, Pt.cells, Pt.slots] at X10 lq10 yq10 zq10 st10 hQ10
    subst lq10 yq10 zq10
    obtain ⟨rfl, Nq10, e10⟩ := hQ10
    have N11 := Fr.app N0 Nq10
    have K12 : ∀ t, Steps p.tables e below (T10.setTop (mkF m 9 #[.val (.int (0 : Int32)), .val (.int (4 : Int32)), .val (.int p3)] [(.int (0 : Int32))])) t → Steps p.tables e below G t := fun t k => K9 t (st10 _ k)
    obtain ⟨fs, hr, hrun, hended, hW, hsame⟩ := X10.leave (v := some (.int (0 : Int32))) (fun h => by rw [Bd.returns] at h; cases h)
    have KF := K12
    rw [hG] at KF
    refine ⟨_, _, KF _ ?_, hrun, hended, _, _, rfl, ?_, ⟨_, rfl⟩, hW, hsame.mono (by decide) (by decide)⟩
    · show Steps p.tables e below (T10.setTop (mkF m 9 #[.val (.int (0 : Int32)), .val (.int (4 : Int32)), .val (.int p3)] [(.int (0 : Int32))])) _
      exact own_retI X10 hx Bd.returns (hb hby d25_9) hr
    · show Q25_c p3 cs (Value.ref af) h0 n0 _ T10.heap _
      rw [e10]
      exact ⟨rfl, N11, rfl⟩
def Q23_c (cs : Int32) (fv : Value) (h0 : Heap) (n0 : Nat) (v : Option Value) (h : Heap) (L : List Loc) : Prop := v = none ∧ Fr n0 L ∧ h = h0
theorem d23_0 : decode jdk_42_method_158_code 0 = .ok (.iload_n 0, 1) := by decide +kernel
theorem d23_1 : decode jdk_42_method_158_code 1 = .ok (.iload_n 1, 1) := by decide +kernel
theorem d23_2 : decode jdk_42_method_158_code 2 = .ok (.iload_n 2, 1) := by decide +kernel
theorem d23_3 : decode jdk_42_method_158_code 3 = .ok (.getstatic 1053, 3) := by decide +kernel
theorem d23_6 : decode jdk_42_method_158_code 6 = .ok (.invokestatic 1062, 3) := by decide +kernel
theorem d23_9 : decode jdk_42_method_158_code 9 = .ok (.pop, 1) := by decide +kernel
theorem d23_10 : decode jdk_42_method_158_code 10 = .ok (.return_, 1) := by decide +kernel
theorem ef_rm23_c (m : MethodId)  : entryFrame m #[(.int (0 : Int32)), (.int (4 : Int32)), (.int (4 : Int32))] 3 = mkF m 0 #[.val (.int (0 : Int32)), .val (.int (4 : Int32)), .val (.int (4 : Int32))] [] := by first | (simp [entryFrame, mkF, argsToLocals, Value.category]; done) | rfl
set_option maxRecDepth 65536 in
set_option maxHeartbeats 40000000 in
theorem rm23_c (l : Launch) (Z : State) (a0 : Array Value) (hw : ∀ d ∈ tables_1, d.before a0 Z = true) (ws : List Jvm.Cond) (cs : Int32) (fv : Value) (h0 : Heap) (n0 : Nat) (Z0 : n0 ≤ h0.size) (SC : Sta Z Z.heap "java/lang/String" "COMPACT_STRINGS" "Z" (.int cs)) (hcs : ¬ cs = 0) (SA : Sta Z Z.heap "java/lang/StringUTF16" "$assertionsDisabled" "Z" (.int (1 : Int32))) (SH : Sta Z Z.heap "java/lang/StringUTF16" "HI_BYTE_SHIFT" "I" (.int (0 : Int32))) (SL : Sta Z Z.heap "java/lang/StringUTF16" "LO_BYTE_SHIFT" "I" (.int (8 : Int32))) (SF : Sta Z Z.heap "jdk/internal/util/Preconditions" "SIOOBE_FORMATTER" "Ljava/util/function/BiFunction;" fv) (hfv : fv = .null ∨ ∃ a, fv = .ref a) (O0 : Old Z n0 h0) :
    MetFree l (⟨"java/lang/String", "checkBoundsBeginEnd", "(III)V"⟩ : MethodName) (head1 (Jvm.Cond.code (⟨"java/lang/String", "checkBoundsBeginEnd", "(III)V"⟩ : MethodName) jdk_42_method_158_code 3 none :: ws) ({ frames := 1, cells := 0, slots := 0, locals := 15 } : Room)) (fun a U => a = #[(.int (0 : Int32)), (.int (4 : Int32)), (.int (4 : Int32))] ∧ Z.Warmed39 U.vm ∧ U.heap = h0) (fun _ _ _ _ _ => True) (fun _ U o U' => ∃ v L, o = .returned v ∧ Q23_c cs fv h0 n0 v U'.heap L ∧ FrameEnd U o U' L ({ frames := 1, cells := 0, slots := 0, locals := 15 } : Room).cells ({ frames := 1, cells := 0, slots := 0, locals := 15 } : Room).slots) := by
  refine MetFree.of_bodySF (plainFor_of_name pn_java_lang_String) hisR ?_
  intro p e s m args below meth c s₁ Bd hml0 hP hK
  obtain ⟨rfl, hZ, hh⟩ := hP
  have hx := Bd.exec
  have hby := Bd.bytes
  have hml : c.maxLocals = 3 := hml0
  have hown : s.vm.findClass "java/lang/String" = some m.cls := findClass_of_methodNamed Bd.named
  have hnm := (name_of_methodNamed Bd.named Bd.method).1
  have X0 : Stand p l e ({ frames := 1, cells := 0, slots := 0, locals := 15 } : Room) s m #[(.int (0 : Int32)), (.int (4 : Int32)), (.int (4 : Int32))] below meth c s₁ [] 0 0 := Stand.of_body Bd
  have e0 : s₁.heap = h0 := by rw [← hh, Bd.state]; rfl
  have N0 := Fr.nil n0
  have KP0 : Keep h0 h0 [] := Keep.refl h0 _
  obtain ⟨G, hG⟩ : ∃ G : State, G = s₁.setTop (entryFrame m #[(.int (0 : Int32)), (.int (4 : Int32)), (.int (4 : Int32))] 3) := ⟨_, rfl⟩
  have pre0 : ∀ t, Steps p.tables e below (s₁.setTop (mkF m 0 #[.val (.int (0 : Int32)), .val (.int (4 : Int32)), .val (.int (4 : Int32))] [])) t → Steps p.tables e below G t := fun t k => hG ▸ castTop (ef_rm23_c m ) k
  rcases hfv with rfl | ⟨af, rfl⟩
  · have K1 : ∀ t, Steps p.tables e below (s₁.setTop (mkF m 3 #[.val (.int (0 : Int32)), .val (.int (4 : Int32)), .val (.int (4 : Int32))] [(.int (4 : Int32)), (.int (4 : Int32)), (.int (0 : Int32))])) t → Steps p.tables e below G t := by
      intro t k
      refine pre0 t ?_
      refine XS.iloadN X0.here hx rfl (hb hby d23_0) rfl ?_
      refine XS.iloadN X0.here hx rfl (hb hby d23_1) rfl ?_
      refine XS.iloadN X0.here hx rfl (hb hby d23_2) rfl ?_
      exact k
    obtain ⟨T2, X2, e2, st2⟩ := getS2 X0 hx hZ hown (host := "") (Or.inl (hw _ (List.mem_of_getElem? (i := 113) rfl))) Via.refl e0 (Sta.ext O0.2 SF) (g := (mkF m 3 #[.val (.int (0 : Int32)), .val (.int (4 : Int32)), .val (.int (4 : Int32))] [(.int (4 : Int32)), (.int (4 : Int32)), (.int (0 : Int32))])) rfl (hb hby d23_3)
    have K3 : ∀ t, Steps p.tables e below (T2.setTop (mkF m 6 #[.val (.int (0 : Int32)), .val (.int (4 : Int32)), .val (.int (4 : Int32))] [.null, (.int (4 : Int32)), (.int (4 : Int32)), (.int (0 : Int32))])) t → Steps p.tables e below G t := fun t k => K1 t (st2 t k)
    obtain ⟨_, _, ⟨T4, L4, kk4, nn4⟩, -, X4, ⟨Lc4, hQ4, lq4, yq4, zq4⟩, st4⟩ := Jvm.LawKit.callS X2 hx (y := (⟨"jdk/internal/util/Preconditions", "checkFromToIndex", "(IIILjava/util/function/BiFunction;)I"⟩ : MethodName)) hown (mvT hZ (hw _ (List.mem_of_getElem? (i := 115) rfl))) (mvT hZ (hw _ (List.mem_of_getElem? (i := 116) rfl))) (mvT hZ (hw _ (List.mem_of_getElem? (i := 114) rfl))) (mvT hZ (hw _ (List.mem_of_getElem? (i := 117) rfl))) (by decide) (backOf (W := 0) (rm24_n l Z a0 hw [] () h0 n0 Z0 ) hZ (hw _ (List.mem_of_getElem? (i := 117) rfl)) (hw _ (List.mem_of_getElem? (i := 114) rfl)) (by decide) (by decide)) (g := (mkF m 6 #[.val (.int (0 : Int32)), .val (.int (4 : Int32)), .val (.int (4 : Int32))] [.null, (.int (4 : Int32)), (.int (4 : Int32)), (.int (0 : Int32))])) rfl (by rw [hml]; rfl) (argsL := [(.int (0 : Int32)), (.int (4 : Int32)), (.int (4 : Int32)), .null]) (rest := []) (lenOf pd_2 rfl) rfl (by show 2 * 0 + _ ≤ _; exact Nat.le_of_eq rfl) (hb hby d23_6) (fun _ _ => ⟨rfl, e2, (by decide : 0 + 0 ≤ _), (by decide : 0 + 0 ≤ _)⟩)
    dsimp only [Pt.U, Pt.locs, Pt.cells, Pt.slots] at X4 lq4 yq4 zq4 st4 hQ4
    subst lq4 yq4 zq4
    obtain ⟨rfl, Nq4, e4⟩ := hQ4
    have N5 := Fr.app N0 Nq4
    have K6 : ∀ t, Steps p.tables e below (T4.setTop (mkF m 9 #[.val (.int (0 : Int32)), .val (.int (4 : Int32)), .val (.int (4 : Int32))] [(.int (0 : Int32))])) t → Steps p.tables e below G t := fun t k => K3 t (st4 _ k)
    obtain ⟨fs, hr, hrun, hended, hW, hsame⟩ := X4.leave (v := none) (fun _ => rfl)
    have KF := K6
    rw [hG] at KF
    refine ⟨_, _, KF _ ?_, hrun, hended, _, _, rfl, ?_, ⟨_, rfl⟩, hW, hsame.mono (by decide) (by decide)⟩
    · refine XS.pop X4.here hx rfl (hb hby d23_9) rfl rfl ?_
      show Steps p.tables e below (T4.setTop (mkF m 10 #[.val (.int (0 : Int32)), .val (.int (4 : Int32)), .val (.int (4 : Int32))] [])) _
      exact X4.returnOut hx Bd.returns (hb hby d23_10) hr
    · show Q23_c cs Value.null h0 n0 _ T4.heap _
      rw [e4]
      exact ⟨rfl, N5, rfl⟩
  · have K7 : ∀ t, Steps p.tables e below (s₁.setTop (mkF m 3 #[.val (.int (0 : Int32)), .val (.int (4 : Int32)), .val (.int (4 : Int32))] [(.int (4 : Int32)), (.int (4 : Int32)), (.int (0 : Int32))])) t → Steps p.tables e below G t := by
      intro t k
      refine pre0 t ?_
      refine XS.iloadN X0.here hx rfl (hb hby d23_0) rfl ?_
      refine XS.iloadN X0.here hx rfl (hb hby d23_1) rfl ?_
      refine XS.iloadN X0.here hx rfl (hb hby d23_2) rfl ?_
      exact k
    obtain ⟨T8, X8, e8, st8⟩ := getS2 X0 hx hZ hown (host := "") (Or.inl (hw _ (List.mem_of_getElem? (i := 113) rfl))) Via.refl e0 (Sta.ext O0.2 SF) (g := (mkF m 3 #[.val (.int (0 : Int32)), .val (.int (4 : Int32)), .val (.int (4 : Int32))] [(.int (4 : Int32)), (.int (4 : Int32)), (.int (0 : Int32))])) rfl (hb hby d23_3)
    have K9 : ∀ t, Steps p.tables e below (T8.setTop (mkF m 6 #[.val (.int (0 : Int32)), .val (.int (4 : Int32)), .val (.int (4 : Int32))] [(.ref af), (.int (4 : Int32)), (.int (4 : Int32)), (.int (0 : Int32))])) t → Steps p.tables e below G t := fun t k => K7 t (st8 t k)
    obtain ⟨_, _, ⟨T10, L10, kk10, nn10⟩, -, X10, ⟨Lc10, hQ10, lq10, yq10, zq10⟩, st10⟩ := Jvm.LawKit.callS X8 hx (y := (⟨"jdk/internal/util/Preconditions", "checkFromToIndex", "(IIILjava/util/function/BiFunction;)I"⟩ : MethodName)) hown (mvT hZ (hw _ (List.mem_of_getElem? (i := 115) rfl))) (mvT hZ (hw _ (List.mem_of_getElem? (i := 116) rfl))) (mvT hZ (hw _ (List.mem_of_getElem? (i := 114) rfl))) (mvT hZ (hw _ (List.mem_of_getElem? (i := 117) rfl))) (by decide) (backOf (W := 0) (rm24_r l Z a0 hw []  af h0 n0 Z0 ) hZ (hw _ (List.mem_of_getElem? (i := 117) rfl)) (hw _ (List.mem_of_getElem? (i := 114) rfl)) (by decide) (by decide)) (g := (mkF m 6 #[.val (.int (0 : Int32)), .val (.int (4 : Int32)), .val (.int (4 : Int32))] [(.ref af), (.int (4 : Int32)), (.int (4 : Int32)), (.int (0 : Int32))])) rfl (by rw [hml]; rfl) (argsL := [(.int (0 : Int32)), (.int (4 : Int32)), (.int (4 : Int32)), (.ref af)]) (rest := []) (lenOf pd_2 rfl) rfl (by show 2 * 0 + _ ≤ _; exact Nat.le_of_eq rfl) (hb hby d23_6) (fun _ _ => ⟨rfl, e8, (by decide : 0 + 0 ≤ _), (by decide : 0 + 0 ≤ _)⟩)
    dsimp only [Pt.U, Pt.locs, Pt.cells, Pt.slots] at X10 lq10 yq10 zq10 st10 hQ10
    subst lq10 yq10 zq10
    obtain ⟨rfl, Nq10, e10⟩ := hQ10
    have N11 := Fr.app N0 Nq10
    have K12 : ∀ t, Steps p.tables e below (T10.setTop (mkF m 9 #[.val (.int (0 : Int32)), .val (.int (4 : Int32)), .val (.int (4 : Int32))] [(.int (0 : Int32))])) t → Steps p.tables e below G t := fun t k => K9 t (st10 _ k)
    obtain ⟨fs, hr, hrun, hended, hW, hsame⟩ := X10.leave (v := none) (fun _ => rfl)
    have KF := K12
    rw [hG] at KF
    refine ⟨_, _, KF _ ?_, hrun, hended, _, _, rfl, ?_, ⟨_, rfl⟩, hW, hsame.mono (by decide) (by decide)⟩
    · refine XS.pop X10.here hx rfl (hb hby d23_9) rfl rfl ?_
      show Steps p.tables e below (T10.setTop (mkF m 10 #[.val (.int (0 : Int32)), .val (.int (4 : Int32)), .val (.int (4 : Int32))] [])) _
      exact X10.returnOut hx Bd.returns (hb hby d23_10) hr
    · show Q23_c cs (Value.ref af) h0 n0 _ T10.heap _
      rw [e10]
      exact ⟨rfl, N11, rfl⟩
def Q30_u (a1 : Addr) (k1 : ClassId) (c0 c1 c2 c3 c4 c5 c6 c7 : Int32) (h0 : Heap) (n0 : Nat) (v : Option Value) (h : Heap) (L : List Loc) : Prop := v = some (.int (4 : Int32)) ∧ Fr n0 L ∧ h = h0
theorem d30_0 : decode jdk_52_method_6_code 0 = .ok (.aload_n 0, 1) := by decide +kernel
theorem d30_1 : decode jdk_52_method_6_code 1 = .ok (.arraylength, 1) := by decide +kernel
theorem d30_2 : decode jdk_52_method_6_code 2 = .ok (.iconst 1, 1) := by decide +kernel
theorem d30_3 : decode jdk_52_method_6_code 3 = .ok (.ishr, 1) := by decide +kernel
theorem d30_4 : decode jdk_52_method_6_code 4 = .ok (.ireturn, 1) := by decide +kernel
theorem pn_java_lang_StringUTF16 : plainName "java/lang/StringUTF16" = true := by first | (simp [plainName, overriddenIn]; done) | decide +kernel
theorem ef_rm30_u (m : MethodId) (x0 : Addr) : entryFrame m #[(.ref x0)] 1 = mkF m 0 #[.val (.ref x0)] [] := by first | (simp [entryFrame, mkF, argsToLocals, Value.category]; done) | rfl
set_option maxRecDepth 65536 in
set_option maxHeartbeats 40000000 in
theorem rm30_u (l : Launch) (Z : State) (a0 : Array Value) (hw : ∀ d ∈ tables_1, d.before a0 Z = true) (ws : List Jvm.Cond) (a1 : Addr) (k1 : ClassId) (c0 c1 c2 c3 c4 c5 c6 c7 : Int32) (h0 : Heap) (n0 : Nat) (Z0 : n0 ≤ h0.size) (V1 : Arv Z h0 a1 k1 .byte (8 : Int32) [(.int c0), (.int c1), (.int c2), (.int c3), (.int c4), (.int c5), (.int c6), (.int c7)] (Value.int (0 : Int32))) :
    MetFree l (⟨"java/lang/StringUTF16", "length", "([B)I"⟩ : MethodName) (head1 (Jvm.Cond.code (⟨"java/lang/StringUTF16", "length", "([B)I"⟩ : MethodName) jdk_52_method_6_code 1 (some .int) :: ws) ({ frames := 0, cells := 0, slots := 0, locals := 0 } : Room)) (fun a U => a = #[(.ref a1)] ∧ Z.Warmed39 U.vm ∧ U.heap = h0) (fun _ _ _ _ _ => True) (fun _ U o U' => ∃ v L, o = .returned v ∧ Q30_u a1 k1 c0 c1 c2 c3 c4 c5 c6 c7 h0 n0 v U'.heap L ∧ FrameEnd U o U' L ({ frames := 0, cells := 0, slots := 0, locals := 0 } : Room).cells ({ frames := 0, cells := 0, slots := 0, locals := 0 } : Room).slots) := by
  refine MetFree.of_bodySF (plainFor_of_name pn_java_lang_StringUTF16) hisR ?_
  intro p e s m args below meth c s₁ Bd hml0 hP hK
  obtain ⟨rfl, hZ, hh⟩ := hP
  have hx := Bd.exec
  have hby := Bd.bytes
  have hml : c.maxLocals = 1 := hml0
  have hown : s.vm.findClass "java/lang/StringUTF16" = some m.cls := findClass_of_methodNamed Bd.named
  have hnm := (name_of_methodNamed Bd.named Bd.method).1
  have X0 : Stand p l e ({ frames := 0, cells := 0, slots := 0, locals := 0 } : Room) s m #[(.ref a1)] below meth c s₁ [] 0 0 := Stand.of_body Bd
  have e0 : s₁.heap = h0 := by rw [← hh, Bd.state]; rfl
  have N0 := Fr.nil n0
  have KP0 : Keep h0 h0 [] := Keep.refl h0 _
  obtain ⟨G, hG⟩ : ∃ G : State, G = s₁.setTop (entryFrame m #[(.ref a1)] 1) := ⟨_, rfl⟩
  have pre0 : ∀ t, Steps p.tables e below (s₁.setTop (mkF m 0 #[.val (.ref a1)] [])) t → Steps p.tables e below G t := fun t k => hG ▸ castTop (ef_rm30_u m a1) k
  have K1 : ∀ t, Steps p.tables e below (s₁.setTop (mkF m 1 #[.val (.ref a1)] [(.ref a1)])) t → Steps p.tables e below G t := by
    intro t k
    refine pre0 t ?_
    refine XS.aloadN X0.here hx rfl (hb hby d30_0) rfl rfl ?_
    exact k
  obtain ⟨cl2, Ar2, -, S2, M2, -, -⟩ := id V1
  have K3 : ∀ t, Steps p.tables e below (s₁.setTop (mkF m 2 #[.val (.ref a1)] [(.int (8 : Int32))])) t → Steps p.tables e below G t := by
    intro t k
    refine K1 t ?_
    refine X0.arraylength hx (by rw [e0]; exact Ar2.1) (State.isArrayOf_alike hZ.alike Ar2.2.1) (g := (mkF m 1 #[.val (.ref a1)] [(.ref a1)])) rfl rfl (hb hby d30_1) _ ?_
    rw [len_of S2 M2]
    exact k
  obtain ⟨fs, hr, hrun, hended, hW, hsame⟩ := X0.leave (v := some (.int (4 : Int32))) (fun h => by rw [Bd.returns] at h; cases h)
  have KF := K3
  rw [hG] at KF
  refine ⟨_, _, KF _ ?_, hrun, hended, _, _, rfl, ?_, ⟨_, rfl⟩, hW, hsame.mono (by decide) (by decide)⟩
  · refine XS.iconst X0.here hx rfl (hb hby d30_2) ?_
    refine XS.ishr X0.here hx rfl (hb hby d30_3) rfl ?_
    show Steps p.tables e below (s₁.setTop (mkF m 4 #[.val (.ref a1)] [(.int (4 : Int32))])) _
    exact own_retI X0 hx Bd.returns (hb hby d30_4) hr
  · show Q30_u a1 k1 c0 c1 c2 c3 c4 c5 c6 c7 h0 n0 _ s₁.heap _
    rw [e0]
    exact ⟨rfl, N0, rfl⟩
def Q29_u (a1 : Addr) (k1 : ClassId) (c0 c1 c2 c3 c4 c5 c6 c7 : Int32) (cs : Int32) (fv : Value) (h0 : Heap) (n0 : Nat) (v : Option Value) (h : Heap) (L : List Loc) : Prop := v = none ∧ Fr n0 L ∧ h = h0
theorem d29_0 : decode jdk_52_method_94_code 0 = .ok (.iload_n 0, 1) := by decide +kernel
theorem d29_1 : decode jdk_52_method_94_code 1 = .ok (.iload_n 1, 1) := by decide +kernel
theorem d29_2 : decode jdk_52_method_94_code 2 = .ok (.aload_n 2, 1) := by decide +kernel
theorem d29_3 : decode jdk_52_method_94_code 3 = .ok (.invokestatic 48, 3) := by decide +kernel
theorem d29_6 : decode jdk_52_method_94_code 6 = .ok (.invokestatic 419, 3) := by decide +kernel
theorem d29_9 : decode jdk_52_method_94_code 9 = .ok (.pop, 1) := by decide +kernel
theorem d29_10 : decode jdk_52_method_94_code 10 = .ok (.return_, 1) := by decide +kernel
theorem pd_3 : parseMethodDescriptor "([B)I" = some ⟨[(.array .byte)], some .int⟩ := by decide +kernel
theorem pd_4 : parseMethodDescriptor "(III)I" = some ⟨[.int, .int, .int], some .int⟩ := by decide +kernel
theorem ef_rm29_u (m : MethodId) (x2 : Addr) : entryFrame m #[(.int (0 : Int32)), (.int (4 : Int32)), (.ref x2)] 3 = mkF m 0 #[.val (.int (0 : Int32)), .val (.int (4 : Int32)), .val (.ref x2)] [] := by first | (simp [entryFrame, mkF, argsToLocals, Value.category]; done) | rfl
set_option maxRecDepth 65536 in
set_option maxHeartbeats 40000000 in
theorem rm29_u (l : Launch) (Z : State) (a0 : Array Value) (hw : ∀ d ∈ tables_1, d.before a0 Z = true) (ws : List Jvm.Cond) (a1 : Addr) (k1 : ClassId) (c0 c1 c2 c3 c4 c5 c6 c7 : Int32) (cs : Int32) (fv : Value) (h0 : Heap) (n0 : Nat) (Z0 : n0 ≤ h0.size) (V1 : Arv Z h0 a1 k1 .byte (8 : Int32) [(.int c0), (.int c1), (.int c2), (.int c3), (.int c4), (.int c5), (.int c6), (.int c7)] (Value.int (0 : Int32))) (SC : Sta Z Z.heap "java/lang/String" "COMPACT_STRINGS" "Z" (.int cs)) (hcs : ¬ cs = 0) (SA : Sta Z Z.heap "java/lang/StringUTF16" "$assertionsDisabled" "Z" (.int (1 : Int32))) (SH : Sta Z Z.heap "java/lang/StringUTF16" "HI_BYTE_SHIFT" "I" (.int (0 : Int32))) (SL : Sta Z Z.heap "java/lang/StringUTF16" "LO_BYTE_SHIFT" "I" (.int (8 : Int32))) (SF : Sta Z Z.heap "jdk/internal/util/Preconditions" "SIOOBE_FORMATTER" "Ljava/util/function/BiFunction;" fv) (hfv : fv = .null ∨ ∃ a, fv = .ref a) (O0 : Old Z n0 h0) :
    MetFree l (⟨"java/lang/StringUTF16", "checkBoundsOffCount", "(II[B)V"⟩ : MethodName) (head1 (Jvm.Cond.code (⟨"java/lang/StringUTF16", "checkBoundsOffCount", "(II[B)V"⟩ : MethodName) jdk_52_method_94_code 3 none :: ws) ({ frames := 2, cells := 0, slots := 0, locals := 29 } : Room)) (fun a U => a = #[(.int (0 : Int32)), (.int (4 : Int32)), (.ref a1)] ∧ Z.Warmed39 U.vm ∧ U.heap = h0) (fun _ _ _ _ _ => True) (fun _ U o U' => ∃ v L, o = .returned v ∧ Q29_u a1 k1 c0 c1 c2 c3 c4 c5 c6 c7 cs fv h0 n0 v U'.heap L ∧ FrameEnd U o U' L ({ frames := 2, cells := 0, slots := 0, locals := 29 } : Room).cells ({ frames := 2, cells := 0, slots := 0, locals := 29 } : Room).slots) := by
  refine MetFree.of_bodySF (plainFor_of_name pn_java_lang_StringUTF16) hisR ?_
  intro p e s m args below meth c s₁ Bd hml0 hP hK
  obtain ⟨rfl, hZ, hh⟩ := hP
  have hx := Bd.exec
  have hby := Bd.bytes
  have hml : c.maxLocals = 3 := hml0
  have hown : s.vm.findClass "java/lang/StringUTF16" = some m.cls := findClass_of_methodNamed Bd.named
  have hnm := (name_of_methodNamed Bd.named Bd.method).1
  have X0 : Stand p l e ({ frames := 2, cells := 0, slots := 0, locals := 29 } : Room) s m #[(.int (0 : Int32)), (.int (4 : Int32)), (.ref a1)] below meth c s₁ [] 0 0 := Stand.of_body Bd
  have e0 : s₁.heap = h0 := by rw [← hh, Bd.state]; rfl
  have N0 := Fr.nil n0
  have KP0 : Keep h0 h0 [] := Keep.refl h0 _
  obtain ⟨G, hG⟩ : ∃ G : State, G = s₁.setTop (entryFrame m #[(.int (0 : Int32)), (.int (4 : Int32)), (.ref a1)] 3) := ⟨_, rfl⟩
  have pre0 : ∀ t, Steps p.tables e below (s₁.setTop (mkF m 0 #[.val (.int (0 : Int32)), .val (.int (4 : Int32)), .val (.ref a1)] [])) t → Steps p.tables e below G t := fun t k => hG ▸ castTop (ef_rm29_u m a1) k
  have K1 : ∀ t, Steps p.tables e below (s₁.setTop (mkF m 3 #[.val (.int (0 : Int32)), .val (.int (4 : Int32)), .val (.ref a1)] [(.ref a1), (.int (4 : Int32)), (.int (0 : Int32))])) t → Steps p.tables e below G t := by
    intro t k
    refine pre0 t ?_
    refine XS.iloadN X0.here hx rfl (hb hby d29_0) rfl ?_
    refine XS.iloadN X0.here hx rfl (hb hby d29_1) rfl ?_
    refine XS.aloadN X0.here hx rfl (hb hby d29_2) rfl rfl ?_
    exact k
  obtain ⟨_, _, ⟨T2, L2, kk2, nn2⟩, -, X2, ⟨Lc2, hQ2, lq2, yq2, zq2⟩, st2⟩ := Jvm.LawKit.callS X0 hx (y := (⟨"java/lang/StringUTF16", "length", "([B)I"⟩ : MethodName)) hown (mvT hZ (hw _ (List.mem_of_getElem? (i := 135) rfl))) (mvT hZ (hw _ (List.mem_of_getElem? (i := 136) rfl))) (mvT hZ (hw _ (List.mem_of_getElem? (i := 36) rfl))) (mvT hZ (hw _ (List.mem_of_getElem? (i := 137) rfl))) (by decide) (backOf (W := 2) (rm30_u l Z a0 hw [] a1 k1 c0 c1 c2 c3 c4 c5 c6 c7 h0 n0 Z0 V1) hZ (hw _ (List.mem_of_getElem? (i := 137) rfl)) (hw _ (List.mem_of_getElem? (i := 36) rfl)) (by decide) (by decide)) (g := (mkF m 3 #[.val (.int (0 : Int32)), .val (.int (4 : Int32)), .val (.ref a1)] [(.ref a1), (.int (4 : Int32)), (.int (0 : Int32))])) rfl (by rw [hml]; rfl) (argsL := [(.ref a1)]) (rest := [(.int (4 : Int32)), (.int (0 : Int32))]) (lenOf pd_3 rfl) rfl (by show 2 * 0 + _ ≤ _; exact Nat.le_of_eq rfl) (hb hby d29_3) (fun _ _ => ⟨rfl, e0, (by decide : 0 + 0 ≤ _), (by decide : 0 + 0 ≤ _)⟩)
  dsimp only [Pt.U, Pt.locs, Pt.cells, Pt.slots] at X2 lq2 yq2 zq2 st2 hQ2
  subst lq2 yq2 zq2
  obtain ⟨rfl, Nq2, e2⟩ := hQ2
  have N3 := Fr.app N0 Nq2
  have K4 : ∀ t, Steps p.tables e below (T2.setTop (mkF m 6 #[.val (.int (0 : Int32)), .val (.int (4 : Int32)), .val (.ref a1)] [(.int (4 : Int32)), (.int (4 : Int32)), (.int (0 : Int32))])) t → Steps p.tables e below G t := fun t k => K1 t (st2 _ k)
  obtain ⟨_, _, ⟨T5, L5, kk5, nn5⟩, -, X5, ⟨Lc5, hQ5, lq5, yq5, zq5⟩, st5⟩ := Jvm.LawKit.callS X2 hx (y := (⟨"java/lang/String", "checkBoundsOffCount", "(III)I"⟩ : MethodName)) hown (mvT hZ (hw _ (List.mem_of_getElem? (i := 138) rfl))) (mvT hZ (hw _ (List.mem_of_getElem? (i := 119) rfl))) (mvT hZ (hw _ (List.mem_of_getElem? (i := 24) rfl))) (mvT hZ (hw _ (List.mem_of_getElem? (i := 120) rfl))) (by decide) (backOf (W := 0) (rm25_c l Z a0 hw [] (4 : Int32) cs fv h0 n0 Z0 SC hcs SA SH SL SF hfv O0 (by decide)) hZ (hw _ (List.mem_of_getElem? (i := 120) rfl)) (hw _ (List.mem_of_getElem? (i := 24) rfl)) (by decide) (by decide)) (g := (mkF m 6 #[.val (.int (0 : Int32)), .val (.int (4 : Int32)), .val (.ref a1)] [(.int (4 : Int32)), (.int (4 : Int32)), (.int (0 : Int32))])) rfl (by rw [hml]; rfl) (argsL := [(.int (0 : Int32)), (.int (4 : Int32)), (.int (4 : Int32))]) (rest := []) (lenOf pd_4 rfl) rfl (by show 2 * 0 + _ ≤ _; exact Nat.le_of_eq rfl) (hb hby d29_6) (fun _ _ => ⟨rfl, e2, (by decide : 0 + 0 ≤ _), (by decide : 0 + 0 ≤ _)⟩)
  dsimp only [Pt.U, Pt.locs, Pt.cells, Pt.slots] at X5 lq5 yq5 zq5 st5 hQ5
  subst lq5 yq5 zq5
  obtain ⟨rfl, Nq5, e5⟩ := hQ5
  have N6 := Fr.app N3 Nq5
  have K7 : ∀ t, Steps p.tables e below (T5.setTop (mkF m 9 #[.val (.int (0 : Int32)), .val (.int (4 : Int32)), .val (.ref a1)] [(.int (0 : Int32))])) t → Steps p.tables e below G t := fun t k => K4 t (st5 _ k)
  obtain ⟨fs, hr, hrun, hended, hW, hsame⟩ := X5.leave (v := none) (fun _ => rfl)
  have KF := K7
  rw [hG] at KF
  refine ⟨_, _, KF _ ?_, hrun, hended, _, _, rfl, ?_, ⟨_, rfl⟩, hW, hsame.mono (by decide) (by decide)⟩
  · refine XS.pop X5.here hx rfl (hb hby d29_9) rfl rfl ?_
    show Steps p.tables e below (T5.setTop (mkF m 10 #[.val (.int (0 : Int32)), .val (.int (4 : Int32)), .val (.ref a1)] [])) _
    exact X5.returnOut hx Bd.returns (hb hby d29_10) hr
  · show Q29_u a1 k1 c0 c1 c2 c3 c4 c5 c6 c7 cs fv h0 n0 _ T5.heap _
    rw [e5]
    exact ⟨rfl, N6, rfl⟩
def Q17_l (a1 : Addr) (cs : Int32) (fv : Value) (h0 : Heap) (n0 : Nat) (v : Option Value) (h : Heap) (L : List Loc) : Prop := v = some (.int (0 : Int32)) ∧ Fr n0 L ∧ h = h0
theorem d17_0 : decode jdk_42_method_152_code 0 = .ok (.getstatic 38, 3) := by decide +kernel
theorem d17_3 : decode jdk_42_method_152_code 3 = .ok (.ifCond .eq 10, 3) := by decide +kernel
theorem d17_6 : decode jdk_42_method_152_code 6 = .ok (.aload_n 0, 1) := by decide +kernel
theorem d17_7 : decode jdk_42_method_152_code 7 = .ok (.getfield 15, 3) := by decide +kernel
theorem d17_10 : decode jdk_42_method_152_code 10 = .ok (.goto 4, 3) := by decide +kernel
theorem d17_13 : decode jdk_42_method_152_code 13 = .ok (.iconst 1, 1) := by decide +kernel
theorem d17_14 : decode jdk_42_method_152_code 14 = .ok (.ireturn, 1) := by decide +kernel
theorem ef_rm17_l (m : MethodId) (x0 : Addr) : entryFrame m #[(.ref x0)] 1 = mkF m 0 #[.val (.ref x0)] [] := by first | (simp [entryFrame, mkF, argsToLocals, Value.category]; done) | rfl
set_option maxRecDepth 65536 in
set_option maxHeartbeats 40000000 in
theorem rm17_l (l : Launch) (Z : State) (a0 : Array Value) (hw : ∀ d ∈ tables_1, d.before a0 Z = true) (ws : List Jvm.Cond) (a1 : Addr) (cs : Int32) (fv : Value) (h0 : Heap) (n0 : Nat) (Z0 : n0 ≤ h0.size) (FC : Fld Z h0 a1 "java/lang/String" "coder" "B" (.int (0 : Int32))) (SC : Sta Z Z.heap "java/lang/String" "COMPACT_STRINGS" "Z" (.int cs)) (hcs : ¬ cs = 0) (SA : Sta Z Z.heap "java/lang/StringUTF16" "$assertionsDisabled" "Z" (.int (1 : Int32))) (SH : Sta Z Z.heap "java/lang/StringUTF16" "HI_BYTE_SHIFT" "I" (.int (0 : Int32))) (SL : Sta Z Z.heap "java/lang/StringUTF16" "LO_BYTE_SHIFT" "I" (.int (8 : Int32))) (SF : Sta Z Z.heap "jdk/internal/util/Preconditions" "SIOOBE_FORMATTER" "Ljava/util/function/BiFunction;" fv) (hfv : fv = .null ∨ ∃ a, fv = .ref a) (O0 : Old Z n0 h0) :
    MetFree l (⟨"java/lang/String", "coder", "()B"⟩ : MethodName) (head1 (Jvm.Cond.code (⟨"java/lang/String", "coder", "()B"⟩ : MethodName) jdk_42_method_152_code 1 (some .byte) :: ws) ({ frames := 0, cells := 0, slots := 0, locals := 0 } : Room)) (fun a U => a = #[(.ref a1)] ∧ Z.Warmed39 U.vm ∧ U.heap = h0) (fun _ _ _ _ _ => True) (fun _ U o U' => ∃ v L, o = .returned v ∧ Q17_l a1 cs fv h0 n0 v U'.heap L ∧ FrameEnd U o U' L ({ frames := 0, cells := 0, slots := 0, locals := 0 } : Room).cells ({ frames := 0, cells := 0, slots := 0, locals := 0 } : Room).slots) := by
  refine MetFree.of_bodySF (plainFor_of_name pn_java_lang_String) hisR ?_
  intro p e s m args below meth c s₁ Bd hml0 hP hK
  obtain ⟨rfl, hZ, hh⟩ := hP
  have hx := Bd.exec
  have hby := Bd.bytes
  have hml : c.maxLocals = 1 := hml0
  have hown : s.vm.findClass "java/lang/String" = some m.cls := findClass_of_methodNamed Bd.named
  have hnm := (name_of_methodNamed Bd.named Bd.method).1
  have X0 : Stand p l e ({ frames := 0, cells := 0, slots := 0, locals := 0 } : Room) s m #[(.ref a1)] below meth c s₁ [] 0 0 := Stand.of_body Bd
  have e0 : s₁.heap = h0 := by rw [← hh, Bd.state]; rfl
  have N0 := Fr.nil n0
  have KP0 : Keep h0 h0 [] := Keep.refl h0 _
  obtain ⟨G, hG⟩ : ∃ G : State, G = s₁.setTop (entryFrame m #[(.ref a1)] 1) := ⟨_, rfl⟩
  have pre0 : ∀ t, Steps p.tables e below (s₁.setTop (mkF m 0 #[.val (.ref a1)] [])) t → Steps p.tables e below G t := fun t k => hG ▸ castTop (ef_rm17_l m a1) k
  obtain ⟨T1, X1, e1, st1⟩ := getS2 X0 hx hZ hown (host := "") (Or.inl (hw _ (List.mem_of_getElem? (i := 33) rfl))) Via.refl e0 (Sta.ext O0.2 SC) (g := (mkF m 0 #[.val (.ref a1)] [])) rfl (hb hby d17_0)
  have K2 : ∀ t, Steps p.tables e below (T1.setTop (mkF m 3 #[.val (.ref a1)] [(.int cs)])) t → Steps p.tables e below G t := fun t k => pre0 t (st1 t k)
  have K3 : ∀ t, Steps p.tables e below (T1.setTop (mkF m 7 #[.val (.ref a1)] [(.ref a1)])) t → Steps p.tables e below G t := by
    intro t k
    refine K2 t ?_
    refine XS.ifNo X1.here hx rfl (hb hby d17_3) rfl ((if0 _ _).trans (feq hcs).1) ?_
    refine XS.aloadN X1.here hx rfl (hb hby d17_6) rfl rfl ?_
    exact k
  obtain ⟨T4, X4, e4, st4⟩ := getF X1 hx hZ hown (host := "") (Or.inl (hw _ (List.mem_of_getElem? (i := 64) rfl))) Via.refl e1 FC (g := (mkF m 7 #[.val (.ref a1)] [(.ref a1)])) rfl rfl (hb hby d17_7)
  have K5 : ∀ t, Steps p.tables e below (T4.setTop (mkF m 10 #[.val (.ref a1)] [(.int (0 : Int32))])) t → Steps p.tables e below G t := fun t k => K3 t (st4 t k)
  obtain ⟨fs, hr, hrun, hended, hW, hsame⟩ := X4.leave (v := some (.int (0 : Int32))) (fun h => by rw [Bd.returns] at h; cases h)
  have KF := K5
  rw [hG] at KF
  refine ⟨_, _, KF _ ?_, hrun, hended, _, _, rfl, ?_, ⟨_, rfl⟩, hW, hsame.mono (by decide) (by decide)⟩
  · refine XS.goto X4.here hx rfl (pc0 := 10) (pc' := 14) rfl (hb hby d17_10) (by decide) (by decide) ?_
    show Steps p.tables e below (T4.setTop (mkF m 14 #[.val (.ref a1)] [(.int (0 : Int32))])) _
    exact retN X4 hx (t := .byte) Bd.returns (by simp) (hb hby d17_14) hr
  · show Q17_l a1 cs fv h0 n0 _ T4.heap _
    rw [e4]
    exact ⟨rfl, N0, rfl⟩
def Q27_l (a1 : Addr) (cs : Int32) (fv : Value) (h0 : Heap) (n0 : Nat) (v : Option Value) (h : Heap) (L : List Loc) : Prop := v = some (.int (1 : Int32)) ∧ Fr n0 L ∧ h = h0
theorem d27_0 : decode jdk_42_method_154_code 0 = .ok (.getstatic 38, 3) := by decide +kernel
theorem d27_3 : decode jdk_42_method_154_code 3 = .ok (.ifCond .eq 14, 3) := by decide +kernel
theorem d27_6 : decode jdk_42_method_154_code 6 = .ok (.aload_n 0, 1) := by decide +kernel
theorem d27_7 : decode jdk_42_method_154_code 7 = .ok (.getfield 15, 3) := by decide +kernel
theorem d27_10 : decode jdk_42_method_154_code 10 = .ok (.ifCond .ne 7, 3) := by decide +kernel
theorem d27_13 : decode jdk_42_method_154_code 13 = .ok (.iconst 1, 1) := by decide +kernel
theorem d27_14 : decode jdk_42_method_154_code 14 = .ok (.goto 4, 3) := by decide +kernel
theorem d27_17 : decode jdk_42_method_154_code 17 = .ok (.iconst 0, 1) := by decide +kernel
theorem d27_18 : decode jdk_42_method_154_code 18 = .ok (.ireturn, 1) := by decide +kernel
theorem ef_rm27_l (m : MethodId) (x0 : Addr) : entryFrame m #[(.ref x0)] 1 = mkF m 0 #[.val (.ref x0)] [] := by first | (simp [entryFrame, mkF, argsToLocals, Value.category]; done) | rfl
set_option maxRecDepth 65536 in
set_option maxHeartbeats 40000000 in
theorem rm27_l (l : Launch) (Z : State) (a0 : Array Value) (hw : ∀ d ∈ tables_1, d.before a0 Z = true) (ws : List Jvm.Cond) (a1 : Addr) (cs : Int32) (fv : Value) (h0 : Heap) (n0 : Nat) (Z0 : n0 ≤ h0.size) (FC : Fld Z h0 a1 "java/lang/String" "coder" "B" (.int (0 : Int32))) (SC : Sta Z Z.heap "java/lang/String" "COMPACT_STRINGS" "Z" (.int cs)) (hcs : ¬ cs = 0) (SA : Sta Z Z.heap "java/lang/StringUTF16" "$assertionsDisabled" "Z" (.int (1 : Int32))) (SH : Sta Z Z.heap "java/lang/StringUTF16" "HI_BYTE_SHIFT" "I" (.int (0 : Int32))) (SL : Sta Z Z.heap "java/lang/StringUTF16" "LO_BYTE_SHIFT" "I" (.int (8 : Int32))) (SF : Sta Z Z.heap "jdk/internal/util/Preconditions" "SIOOBE_FORMATTER" "Ljava/util/function/BiFunction;" fv) (hfv : fv = .null ∨ ∃ a, fv = .ref a) (O0 : Old Z n0 h0) :
    MetFree l (⟨"java/lang/String", "isLatin1", "()Z"⟩ : MethodName) (head1 (Jvm.Cond.code (⟨"java/lang/String", "isLatin1", "()Z"⟩ : MethodName) jdk_42_method_154_code 1 (some .boolean) :: ws) ({ frames := 0, cells := 0, slots := 0, locals := 0 } : Room)) (fun a U => a = #[(.ref a1)] ∧ Z.Warmed39 U.vm ∧ U.heap = h0) (fun _ _ _ _ _ => True) (fun _ U o U' => ∃ v L, o = .returned v ∧ Q27_l a1 cs fv h0 n0 v U'.heap L ∧ FrameEnd U o U' L ({ frames := 0, cells := 0, slots := 0, locals := 0 } : Room).cells ({ frames := 0, cells := 0, slots := 0, locals := 0 } : Room).slots) := by
  refine MetFree.of_bodySF (plainFor_of_name pn_java_lang_String) hisR ?_
  intro p e s m args below meth c s₁ Bd hml0 hP hK
  obtain ⟨rfl, hZ, hh⟩ := hP
  have hx := Bd.exec
  have hby := Bd.bytes
  have hml : c.maxLocals = 1 := hml0
  have hown : s.vm.findClass "java/lang/String" = some m.cls := findClass_of_methodNamed Bd.named
  have hnm := (name_of_methodNamed Bd.named Bd.method).1
  have X0 : Stand p l e ({ frames := 0, cells := 0, slots := 0, locals := 0 } : Room) s m #[(.ref a1)] below meth c s₁ [] 0 0 := Stand.of_body Bd
  have e0 : s₁.heap = h0 := by rw [← hh, Bd.state]; rfl
  have N0 := Fr.nil n0
  have KP0 : Keep h0 h0 [] := Keep.refl h0 _
  obtain ⟨G, hG⟩ : ∃ G : State, G = s₁.setTop (entryFrame m #[(.ref a1)] 1) := ⟨_, rfl⟩
  have pre0 : ∀ t, Steps p.tables e below (s₁.setTop (mkF m 0 #[.val (.ref a1)] [])) t → Steps p.tables e below G t := fun t k => hG ▸ castTop (ef_rm27_l m a1) k
  obtain ⟨T1, X1, e1, st1⟩ := getS2 X0 hx hZ hown (host := "") (Or.inl (hw _ (List.mem_of_getElem? (i := 33) rfl))) Via.refl e0 (Sta.ext O0.2 SC) (g := (mkF m 0 #[.val (.ref a1)] [])) rfl (hb hby d27_0)
  have K2 : ∀ t, Steps p.tables e below (T1.setTop (mkF m 3 #[.val (.ref a1)] [(.int cs)])) t → Steps p.tables e below G t := fun t k => pre0 t (st1 t k)
  have K3 : ∀ t, Steps p.tables e below (T1.setTop (mkF m 7 #[.val (.ref a1)] [(.ref a1)])) t → Steps p.tables e below G t := by
    intro t k
    refine K2 t ?_
    refine XS.ifNo X1.here hx rfl (hb hby d27_3) rfl ((if0 _ _).trans (feq hcs).1) ?_
    refine XS.aloadN X1.here hx rfl (hb hby d27_6) rfl rfl ?_
    exact k
  obtain ⟨T4, X4, e4, st4⟩ := getF X1 hx hZ hown (host := "") (Or.inl (hw _ (List.mem_of_getElem? (i := 64) rfl))) Via.refl e1 FC (g := (mkF m 7 #[.val (.ref a1)] [(.ref a1)])) rfl rfl (hb hby d27_7)
  have K5 : ∀ t, Steps p.tables e below (T4.setTop (mkF m 10 #[.val (.ref a1)] [(.int (0 : Int32))])) t → Steps p.tables e below G t := fun t k => K3 t (st4 t k)
  obtain ⟨fs, hr, hrun, hended, hW, hsame⟩ := X4.leave (v := some (.int (1 : Int32))) (fun h => by rw [Bd.returns] at h; cases h)
  have KF := K5
  rw [hG] at KF
  refine ⟨_, _, KF _ ?_, hrun, hended, _, _, rfl, ?_, ⟨_, rfl⟩, hW, hsame.mono (by decide) (by decide)⟩
  · refine XS.ifNo X4.here hx rfl (hb hby d27_10) rfl ((if0 _ _).trans (teq (by decide)).2) ?_
    refine XS.iconst X4.here hx rfl (hb hby d27_13) ?_
    refine XS.goto X4.here hx rfl (pc0 := 14) (pc' := 18) rfl (hb hby d27_14) (by decide) (by decide) ?_
    show Steps p.tables e below (T4.setTop (mkF m 18 #[.val (.ref a1)] [(.int (1 : Int32))])) _
    exact retN X4 hx (t := .boolean) Bd.returns (by simp) (hb hby d27_18) hr
  · show Q27_l a1 cs fv h0 n0 _ T4.heap _
    rw [e4]
    exact ⟨rfl, N0, rfl⟩
def Q16_l (a1 a2 : Addr) (k2 : ClassId) (vs : List Value) (cs : Int32) (fv : Value) (h0 : Heap) (n0 : Nat) (v : Option Value) (h : Heap) (L : List Loc) : Prop := v = some (.int (4 : Int32)) ∧ Fr n0 L ∧ h = h0
theorem d16_0 : decode jdk_42_method_54_code 0 = .ok (.aload_n 0, 1) := by decide +kernel
theorem d16_1 : decode jdk_42_method_54_code 1 = .ok (.getfield 9, 3) := by decide +kernel
theorem d16_4 : decode jdk_42_method_54_code 4 = .ok (.arraylength, 1) := by decide +kernel
theorem d16_5 : decode jdk_42_method_54_code 5 = .ok (.aload_n 0, 1) := by decide +kernel
theorem d16_6 : decode jdk_42_method_54_code 6 = .ok (.invokevirtual 335, 3) := by decide +kernel
theorem d16_9 : decode jdk_42_method_54_code 9 = .ok (.ishr, 1) := by decide +kernel
theorem d16_10 : decode jdk_42_method_54_code 10 = .ok (.ireturn, 1) := by decide +kernel
theorem pd_5 : parseMethodDescriptor "()B" = some ⟨[], some .byte⟩ := by decide +kernel
theorem ef_rm16_l (m : MethodId) (x0 : Addr) : entryFrame m #[(.ref x0)] 1 = mkF m 0 #[.val (.ref x0)] [] := by first | (simp [entryFrame, mkF, argsToLocals, Value.category]; done) | rfl
set_option maxRecDepth 65536 in
set_option maxHeartbeats 40000000 in
theorem rm16_l (l : Launch) (Z : State) (a0 : Array Value) (hw : ∀ d ∈ tables_1, d.before a0 Z = true) (ws : List Jvm.Cond) (a1 a2 : Addr) (k2 : ClassId) (vs : List Value) (cs : Int32) (fv : Value) (h0 : Heap) (n0 : Nat) (Z0 : n0 ≤ h0.size) (E1 : Exa Z h0 a1 "java/lang/String") (FC : Fld Z h0 a1 "java/lang/String" "coder" "B" (.int (0 : Int32))) (FV : Fld Z h0 a1 "java/lang/String" "value" "[B" (.ref a2)) (V2 : Arv Z h0 a2 k2 .byte (4 : Int32) vs (Value.int (0 : Int32))) (SC : Sta Z Z.heap "java/lang/String" "COMPACT_STRINGS" "Z" (.int cs)) (hcs : ¬ cs = 0) (SA : Sta Z Z.heap "java/lang/StringUTF16" "$assertionsDisabled" "Z" (.int (1 : Int32))) (SH : Sta Z Z.heap "java/lang/StringUTF16" "HI_BYTE_SHIFT" "I" (.int (0 : Int32))) (SL : Sta Z Z.heap "java/lang/StringUTF16" "LO_BYTE_SHIFT" "I" (.int (8 : Int32))) (SF : Sta Z Z.heap "jdk/internal/util/Preconditions" "SIOOBE_FORMATTER" "Ljava/util/function/BiFunction;" fv) (hfv : fv = .null ∨ ∃ a, fv = .ref a) (O0 : Old Z n0 h0) :
    MetFree l (⟨"java/lang/String", "length", "()I"⟩ : MethodName) (head1 (Jvm.Cond.code (⟨"java/lang/String", "length", "()I"⟩ : MethodName) jdk_42_method_54_code 1 (some .int) :: ws) ({ frames := 1, cells := 0, slots := 0, locals := 13 } : Room)) (fun a U => a = #[(.ref a1)] ∧ Z.Warmed39 U.vm ∧ U.heap = h0) (fun _ _ _ _ _ => True) (fun _ U o U' => ∃ v L, o = .returned v ∧ Q16_l a1 a2 k2 vs cs fv h0 n0 v U'.heap L ∧ FrameEnd U o U' L ({ frames := 1, cells := 0, slots := 0, locals := 13 } : Room).cells ({ frames := 1, cells := 0, slots := 0, locals := 13 } : Room).slots) := by
  refine MetFree.of_bodySF (plainFor_of_name pn_java_lang_String) hisR ?_
  intro p e s m args below meth c s₁ Bd hml0 hP hK
  obtain ⟨rfl, hZ, hh⟩ := hP
  have hx := Bd.exec
  have hby := Bd.bytes
  have hml : c.maxLocals = 1 := hml0
  have hown : s.vm.findClass "java/lang/String" = some m.cls := findClass_of_methodNamed Bd.named
  have hnm := (name_of_methodNamed Bd.named Bd.method).1
  have X0 : Stand p l e ({ frames := 1, cells := 0, slots := 0, locals := 13 } : Room) s m #[(.ref a1)] below meth c s₁ [] 0 0 := Stand.of_body Bd
  have e0 : s₁.heap = h0 := by rw [← hh, Bd.state]; rfl
  have N0 := Fr.nil n0
  have KP0 : Keep h0 h0 [] := Keep.refl h0 _
  obtain ⟨G, hG⟩ : ∃ G : State, G = s₁.setTop (entryFrame m #[(.ref a1)] 1) := ⟨_, rfl⟩
  have pre0 : ∀ t, Steps p.tables e below (s₁.setTop (mkF m 0 #[.val (.ref a1)] [])) t → Steps p.tables e below G t := fun t k => hG ▸ castTop (ef_rm16_l m a1) k
  have K1 : ∀ t, Steps p.tables e below (s₁.setTop (mkF m 1 #[.val (.ref a1)] [(.ref a1)])) t → Steps p.tables e below G t := by
    intro t k
    refine pre0 t ?_
    refine XS.aloadN X0.here hx rfl (hb hby d16_0) rfl rfl ?_
    exact k
  obtain ⟨T2, X2, e2, st2⟩ := getF X0 hx hZ hown (host := "") (Or.inl (hw _ (List.mem_of_getElem? (i := 66) rfl))) Via.refl e0 FV (g := (mkF m 1 #[.val (.ref a1)] [(.ref a1)])) rfl rfl (hb hby d16_1)
  have K3 : ∀ t, Steps p.tables e below (T2.setTop (mkF m 4 #[.val (.ref a1)] [(.ref a2)])) t → Steps p.tables e below G t := fun t k => K1 t (st2 t k)
  obtain ⟨cl4, Ar4, -, S4, M4, -, -⟩ := id V2
  have K5 : ∀ t, Steps p.tables e below (T2.setTop (mkF m 5 #[.val (.ref a1)] [(.int (4 : Int32))])) t → Steps p.tables e below G t := by
    intro t k
    refine K3 t ?_
    refine X2.arraylength hx (by rw [e2]; exact Ar4.1) (State.isArrayOf_alike hZ.alike Ar4.2.1) (g := (mkF m 4 #[.val (.ref a1)] [(.ref a2)])) rfl rfl (hb hby d16_4) _ ?_
    rw [len_of S4 M4]
    exact k
  have K6 : ∀ t, Steps p.tables e below (T2.setTop (mkF m 6 #[.val (.ref a1)] [(.ref a1), (.int (4 : Int32))])) t → Steps p.tables e below G t := by
    intro t k
    refine K5 t ?_
    refine XS.aloadN X2.here hx rfl (hb hby d16_5) rfl rfl ?_
    exact k
  obtain ⟨cq7, kq7, q7a, q7b, q7c⟩ := isOf hZ e2 E1
  obtain ⟨_, _, ⟨T7, L7, kk7, nn7⟩, -, X7, ⟨Lc7, hQ7, lq7, yq7, zq7⟩, st7⟩ := X2.virtualBack hx (y := (⟨"java/lang/String", "coder", "()B"⟩ : MethodName)) (z := (⟨"java/lang/String", "coder", "()B"⟩ : MethodName)) hown (mvT hZ (hw _ (List.mem_of_getElem? (i := 78) rfl))) (mvT hZ (hw _ (List.mem_of_getElem? (i := 79) rfl))) (notFace_of_selects (args := #[]) (mvT hZ (hw _ (List.mem_of_getElem? (i := 81) rfl)))) (mvT hZ (hw _ (List.mem_of_getElem? (i := 81) rfl))) (mvT hZ (hw _ (List.mem_of_getElem? (i := 80) rfl))) (by decide) (backOf (W := 1) (rm17_l l Z a0 hw [] a1 cs fv h0 n0 Z0 FC SC hcs SA SH SL SF hfv O0) hZ (hw _ (List.mem_of_getElem? (i := 82) rfl)) (hw _ (List.mem_of_getElem? (i := 24) rfl)) (by decide) (by decide)) q7a q7c (g := (mkF m 6 #[.val (.ref a1)] [(.ref a1), (.int (4 : Int32))])) rfl (by rw [hml]; rfl) (Steps.refl _) (argsL := []) (rest := [(.int (4 : Int32))]) (lenOf pd_5 rfl) rfl (by show 2 * 0 + _ ≤ _; exact Nat.le_of_eq rfl) (hb hby d16_6) (fun _ _ => ⟨rfl, e2, (by decide : 0 + 0 ≤ _), (by decide : 0 + 0 ≤ _)⟩)
  dsimp only [Pt.U, Pt.locs, Pt.cells, Pt.slots] at X7 lq7 yq7 zq7 st7 hQ7
  subst lq7 yq7 zq7
  obtain ⟨rfl, Nq7, e7⟩ := hQ7
  have N8 := Fr.app N0 Nq7
  have K9 : ∀ t, Steps p.tables e below (T7.setTop (mkF m 9 #[.val (.ref a1)] [(.int (0 : Int32)), (.int (4 : Int32))])) t → Steps p.tables e below G t := fun t k => K6 t (st7.trans k)
  obtain ⟨fs, hr, hrun, hended, hW, hsame⟩ := X7.leave (v := some (.int (4 : Int32))) (fun h => by rw [Bd.returns] at h; cases h)
  have KF := K9
  rw [hG] at KF
  refine ⟨_, _, KF _ ?_, hrun, hended, _, _, rfl, ?_, ⟨_, rfl⟩, hW, hsame.mono (by decide) (by decide)⟩
  · refine XS.ishr X7.here hx rfl (hb hby d16_9) rfl ?_
    show Steps p.tables e below (T7.setTop (mkF m 10 #[.val (.ref a1)] [(.int (4 : Int32))])) _
    exact own_retI X7 hx Bd.returns (hb hby d16_10) hr
  · show Q16_l a1 a2 k2 vs cs fv h0 n0 _ T7.heap _
    rw [e7]
    exact ⟨rfl, N8, rfl⟩
def Q17_u (a1 : Addr) (cs : Int32) (fv : Value) (h0 : Heap) (n0 : Nat) (v : Option Value) (h : Heap) (L : List Loc) : Prop := v = some (.int (1 : Int32)) ∧ Fr n0 L ∧ h = h0
theorem ef_rm17_u (m : MethodId) (x0 : Addr) : entryFrame m #[(.ref x0)] 1 = mkF m 0 #[.val (.ref x0)] [] := by first | (simp [entryFrame, mkF, argsToLocals, Value.category]; done) | rfl
set_option maxRecDepth 65536 in
set_option maxHeartbeats 40000000 in
theorem rm17_u (l : Launch) (Z : State) (a0 : Array Value) (hw : ∀ d ∈ tables_1, d.before a0 Z = true) (ws : List Jvm.Cond) (a1 : Addr) (cs : Int32) (fv : Value) (h0 : Heap) (n0 : Nat) (Z0 : n0 ≤ h0.size) (FC : Fld Z h0 a1 "java/lang/String" "coder" "B" (.int (1 : Int32))) (SC : Sta Z Z.heap "java/lang/String" "COMPACT_STRINGS" "Z" (.int cs)) (hcs : ¬ cs = 0) (SA : Sta Z Z.heap "java/lang/StringUTF16" "$assertionsDisabled" "Z" (.int (1 : Int32))) (SH : Sta Z Z.heap "java/lang/StringUTF16" "HI_BYTE_SHIFT" "I" (.int (0 : Int32))) (SL : Sta Z Z.heap "java/lang/StringUTF16" "LO_BYTE_SHIFT" "I" (.int (8 : Int32))) (SF : Sta Z Z.heap "jdk/internal/util/Preconditions" "SIOOBE_FORMATTER" "Ljava/util/function/BiFunction;" fv) (hfv : fv = .null ∨ ∃ a, fv = .ref a) (O0 : Old Z n0 h0) :
    MetFree l (⟨"java/lang/String", "coder", "()B"⟩ : MethodName) (head1 (Jvm.Cond.code (⟨"java/lang/String", "coder", "()B"⟩ : MethodName) jdk_42_method_152_code 1 (some .byte) :: ws) ({ frames := 0, cells := 0, slots := 0, locals := 0 } : Room)) (fun a U => a = #[(.ref a1)] ∧ Z.Warmed39 U.vm ∧ U.heap = h0) (fun _ _ _ _ _ => True) (fun _ U o U' => ∃ v L, o = .returned v ∧ Q17_u a1 cs fv h0 n0 v U'.heap L ∧ FrameEnd U o U' L ({ frames := 0, cells := 0, slots := 0, locals := 0 } : Room).cells ({ frames := 0, cells := 0, slots := 0, locals := 0 } : Room).slots) := by
  refine MetFree.of_bodySF (plainFor_of_name pn_java_lang_String) hisR ?_
  intro p e s m args below meth c s₁ Bd hml0 hP hK
  obtain ⟨rfl, hZ, hh⟩ := hP
  have hx := Bd.exec
  have hby := Bd.bytes
  have hml : c.maxLocals = 1 := hml0
  have hown : s.vm.findClass "java/lang/String" = some m.cls := findClass_of_methodNamed Bd.named
  have hnm := (name_of_methodNamed Bd.named Bd.method).1
  have X0 : Stand p l e ({ frames := 0, cells := 0, slots := 0, locals := 0 } : Room) s m #[(.ref a1)] below meth c s₁ [] 0 0 := Stand.of_body Bd
  have e0 : s₁.heap = h0 := by rw [← hh, Bd.state]; rfl
  have N0 := Fr.nil n0
  have KP0 : Keep h0 h0 [] := Keep.refl h0 _
  obtain ⟨G, hG⟩ : ∃ G : State, G = s₁.setTop (entryFrame m #[(.ref a1)] 1) := ⟨_, rfl⟩
  have pre0 : ∀ t, Steps p.tables e below (s₁.setTop (mkF m 0 #[.val (.ref a1)] [])) t → Steps p.tables e below G t := fun t k => hG ▸ castTop (ef_rm17_u m a1) k
  obtain ⟨T1, X1, e1, st1⟩ := getS2 X0 hx hZ hown (host := "") (Or.inl (hw _ (List.mem_of_getElem? (i := 33) rfl))) Via.refl e0 (Sta.ext O0.2 SC) (g := (mkF m 0 #[.val (.ref a1)] [])) rfl (hb hby d17_0)
  have K2 : ∀ t, Steps p.tables e below (T1.setTop (mkF m 3 #[.val (.ref a1)] [(.int cs)])) t → Steps p.tables e below G t := fun t k => pre0 t (st1 t k)
  have K3 : ∀ t, Steps p.tables e below (T1.setTop (mkF m 7 #[.val (.ref a1)] [(.ref a1)])) t → Steps p.tables e below G t := by
    intro t k
    refine K2 t ?_
    refine XS.ifNo X1.here hx rfl (hb hby d17_3) rfl ((if0 _ _).trans (feq hcs).1) ?_
    refine XS.aloadN X1.here hx rfl (hb hby d17_6) rfl rfl ?_
    exact k
  obtain ⟨T4, X4, e4, st4⟩ := getF X1 hx hZ hown (host := "") (Or.inl (hw _ (List.mem_of_getElem? (i := 64) rfl))) Via.refl e1 FC (g := (mkF m 7 #[.val (.ref a1)] [(.ref a1)])) rfl rfl (hb hby d17_7)
  have K5 : ∀ t, Steps p.tables e below (T4.setTop (mkF m 10 #[.val (.ref a1)] [(.int (1 : Int32))])) t → Steps p.tables e below G t := fun t k => K3 t (st4 t k)
  obtain ⟨fs, hr, hrun, hended, hW, hsame⟩ := X4.leave (v := some (.int (1 : Int32))) (fun h => by rw [Bd.returns] at h; cases h)
  have KF := K5
  rw [hG] at KF
  refine ⟨_, _, KF _ ?_, hrun, hended, _, _, rfl, ?_, ⟨_, rfl⟩, hW, hsame.mono (by decide) (by decide)⟩
  · refine XS.goto X4.here hx rfl (pc0 := 10) (pc' := 14) rfl (hb hby d17_10) (by decide) (by decide) ?_
    show Steps p.tables e below (T4.setTop (mkF m 14 #[.val (.ref a1)] [(.int (1 : Int32))])) _
    exact retN X4 hx (t := .byte) Bd.returns (by simp) (hb hby d17_14) hr
  · show Q17_u a1 cs fv h0 n0 _ T4.heap _
    rw [e4]
    exact ⟨rfl, N0, rfl⟩
def Q27_u (a1 : Addr) (cs : Int32) (fv : Value) (h0 : Heap) (n0 : Nat) (v : Option Value) (h : Heap) (L : List Loc) : Prop := v = some (.int (0 : Int32)) ∧ Fr n0 L ∧ h = h0
theorem ef_rm27_u (m : MethodId) (x0 : Addr) : entryFrame m #[(.ref x0)] 1 = mkF m 0 #[.val (.ref x0)] [] := by first | (simp [entryFrame, mkF, argsToLocals, Value.category]; done) | rfl
set_option maxRecDepth 65536 in
set_option maxHeartbeats 40000000 in
theorem rm27_u (l : Launch) (Z : State) (a0 : Array Value) (hw : ∀ d ∈ tables_1, d.before a0 Z = true) (ws : List Jvm.Cond) (a1 : Addr) (cs : Int32) (fv : Value) (h0 : Heap) (n0 : Nat) (Z0 : n0 ≤ h0.size) (FC : Fld Z h0 a1 "java/lang/String" "coder" "B" (.int (1 : Int32))) (SC : Sta Z Z.heap "java/lang/String" "COMPACT_STRINGS" "Z" (.int cs)) (hcs : ¬ cs = 0) (SA : Sta Z Z.heap "java/lang/StringUTF16" "$assertionsDisabled" "Z" (.int (1 : Int32))) (SH : Sta Z Z.heap "java/lang/StringUTF16" "HI_BYTE_SHIFT" "I" (.int (0 : Int32))) (SL : Sta Z Z.heap "java/lang/StringUTF16" "LO_BYTE_SHIFT" "I" (.int (8 : Int32))) (SF : Sta Z Z.heap "jdk/internal/util/Preconditions" "SIOOBE_FORMATTER" "Ljava/util/function/BiFunction;" fv) (hfv : fv = .null ∨ ∃ a, fv = .ref a) (O0 : Old Z n0 h0) :
    MetFree l (⟨"java/lang/String", "isLatin1", "()Z"⟩ : MethodName) (head1 (Jvm.Cond.code (⟨"java/lang/String", "isLatin1", "()Z"⟩ : MethodName) jdk_42_method_154_code 1 (some .boolean) :: ws) ({ frames := 0, cells := 0, slots := 0, locals := 0 } : Room)) (fun a U => a = #[(.ref a1)] ∧ Z.Warmed39 U.vm ∧ U.heap = h0) (fun _ _ _ _ _ => True) (fun _ U o U' => ∃ v L, o = .returned v ∧ Q27_u a1 cs fv h0 n0 v U'.heap L ∧ FrameEnd U o U' L ({ frames := 0, cells := 0, slots := 0, locals := 0 } : Room).cells ({ frames := 0, cells := 0, slots := 0, locals := 0 } : Room).slots) := by
  refine MetFree.of_bodySF (plainFor_of_name pn_java_lang_String) hisR ?_
  intro p e s m args below meth c s₁ Bd hml0 hP hK
  obtain ⟨rfl, hZ, hh⟩ := hP
  have hx := Bd.exec
  have hby := Bd.bytes
  have hml : c.maxLocals = 1 := hml0
  have hown : s.vm.findClass "java/lang/String" = some m.cls := findClass_of_methodNamed Bd.named
  have hnm := (name_of_methodNamed Bd.named Bd.method).1
  have X0 : Stand p l e ({ frames := 0, cells := 0, slots := 0, locals := 0 } : Room) s m #[(.ref a1)] below meth c s₁ [] 0 0 := Stand.of_body Bd
  have e0 : s₁.heap = h0 := by rw [← hh, Bd.state]; rfl
  have N0 := Fr.nil n0
  have KP0 : Keep h0 h0 [] := Keep.refl h0 _
  obtain ⟨G, hG⟩ : ∃ G : State, G = s₁.setTop (entryFrame m #[(.ref a1)] 1) := ⟨_, rfl⟩
  have pre0 : ∀ t, Steps p.tables e below (s₁.setTop (mkF m 0 #[.val (.ref a1)] [])) t → Steps p.tables e below G t := fun t k => hG ▸ castTop (ef_rm27_u m a1) k
  obtain ⟨T1, X1, e1, st1⟩ := getS2 X0 hx hZ hown (host := "") (Or.inl (hw _ (List.mem_of_getElem? (i := 33) rfl))) Via.refl e0 (Sta.ext O0.2 SC) (g := (mkF m 0 #[.val (.ref a1)] [])) rfl (hb hby d27_0)
  have K2 : ∀ t, Steps p.tables e below (T1.setTop (mkF m 3 #[.val (.ref a1)] [(.int cs)])) t → Steps p.tables e below G t := fun t k => pre0 t (st1 t k)
  have K3 : ∀ t, Steps p.tables e below (T1.setTop (mkF m 7 #[.val (.ref a1)] [(.ref a1)])) t → Steps p.tables e below G t := by
    intro t k
    refine K2 t ?_
    refine XS.ifNo X1.here hx rfl (hb hby d27_3) rfl ((if0 _ _).trans (feq hcs).1) ?_
    refine XS.aloadN X1.here hx rfl (hb hby d27_6) rfl rfl ?_
    exact k
  obtain ⟨T4, X4, e4, st4⟩ := getF X1 hx hZ hown (host := "") (Or.inl (hw _ (List.mem_of_getElem? (i := 64) rfl))) Via.refl e1 FC (g := (mkF m 7 #[.val (.ref a1)] [(.ref a1)])) rfl rfl (hb hby d27_7)
  have K5 : ∀ t, Steps p.tables e below (T4.setTop (mkF m 10 #[.val (.ref a1)] [(.int (1 : Int32))])) t → Steps p.tables e below G t := fun t k => K3 t (st4 t k)
  obtain ⟨fs, hr, hrun, hended, hW, hsame⟩ := X4.leave (v := some (.int (0 : Int32))) (fun h => by rw [Bd.returns] at h; cases h)
  have KF := K5
  rw [hG] at KF
  refine ⟨_, _, KF _ ?_, hrun, hended, _, _, rfl, ?_, ⟨_, rfl⟩, hW, hsame.mono (by decide) (by decide)⟩
  · refine XS.ifYes X4.here hx rfl (pc0 := 10) (pc' := 17) rfl (hb hby d27_10) rfl ((if0 _ _).trans (feq (by decide)).2) (by decide) (by decide) ?_
    refine XS.iconst X4.here hx rfl (hb hby d27_17) ?_
    show Steps p.tables e below (T4.setTop (mkF m 18 #[.val (.ref a1)] [(.int (0 : Int32))])) _
    exact retN X4 hx (t := .boolean) Bd.returns (by simp) (hb hby d27_18) hr
  · show Q27_u a1 cs fv h0 n0 _ T4.heap _
    rw [e4]
    exact ⟨rfl, N0, rfl⟩
def Q16_u (a1 a2 : Addr) (k2 : ClassId) (vs : List Value) (cs : Int32) (fv : Value) (h0 : Heap) (n0 : Nat) (v : Option Value) (h : Heap) (L : List Loc) : Prop := v = some (.int (4 : Int32)) ∧ Fr n0 L ∧ h = h0
theorem ef_rm16_u (m : MethodId) (x0 : Addr) : entryFrame m #[(.ref x0)] 1 = mkF m 0 #[.val (.ref x0)] [] := by first | (simp [entryFrame, mkF, argsToLocals, Value.category]; done) | rfl
set_option maxRecDepth 65536 in
set_option maxHeartbeats 40000000 in
theorem rm16_u (l : Launch) (Z : State) (a0 : Array Value) (hw : ∀ d ∈ tables_1, d.before a0 Z = true) (ws : List Jvm.Cond) (a1 a2 : Addr) (k2 : ClassId) (vs : List Value) (cs : Int32) (fv : Value) (h0 : Heap) (n0 : Nat) (Z0 : n0 ≤ h0.size) (E1 : Exa Z h0 a1 "java/lang/String") (FC : Fld Z h0 a1 "java/lang/String" "coder" "B" (.int (1 : Int32))) (FV : Fld Z h0 a1 "java/lang/String" "value" "[B" (.ref a2)) (V2 : Arv Z h0 a2 k2 .byte (8 : Int32) vs (Value.int (0 : Int32))) (SC : Sta Z Z.heap "java/lang/String" "COMPACT_STRINGS" "Z" (.int cs)) (hcs : ¬ cs = 0) (SA : Sta Z Z.heap "java/lang/StringUTF16" "$assertionsDisabled" "Z" (.int (1 : Int32))) (SH : Sta Z Z.heap "java/lang/StringUTF16" "HI_BYTE_SHIFT" "I" (.int (0 : Int32))) (SL : Sta Z Z.heap "java/lang/StringUTF16" "LO_BYTE_SHIFT" "I" (.int (8 : Int32))) (SF : Sta Z Z.heap "jdk/internal/util/Preconditions" "SIOOBE_FORMATTER" "Ljava/util/function/BiFunction;" fv) (hfv : fv = .null ∨ ∃ a, fv = .ref a) (O0 : Old Z n0 h0) :
    MetFree l (⟨"java/lang/String", "length", "()I"⟩ : MethodName) (head1 (Jvm.Cond.code (⟨"java/lang/String", "length", "()I"⟩ : MethodName) jdk_42_method_54_code 1 (some .int) :: ws) ({ frames := 1, cells := 0, slots := 0, locals := 13 } : Room)) (fun a U => a = #[(.ref a1)] ∧ Z.Warmed39 U.vm ∧ U.heap = h0) (fun _ _ _ _ _ => True) (fun _ U o U' => ∃ v L, o = .returned v ∧ Q16_u a1 a2 k2 vs cs fv h0 n0 v U'.heap L ∧ FrameEnd U o U' L ({ frames := 1, cells := 0, slots := 0, locals := 13 } : Room).cells ({ frames := 1, cells := 0, slots := 0, locals := 13 } : Room).slots) := by
  refine MetFree.of_bodySF (plainFor_of_name pn_java_lang_String) hisR ?_
  intro p e s m args below meth c s₁ Bd hml0 hP hK
  obtain ⟨rfl, hZ, hh⟩ := hP
  have hx := Bd.exec
  have hby := Bd.bytes
  have hml : c.maxLocals = 1 := hml0
  have hown : s.vm.findClass "java/lang/String" = some m.cls := findClass_of_methodNamed Bd.named
  have hnm := (name_of_methodNamed Bd.named Bd.method).1
  have X0 : Stand p l e ({ frames := 1, cells := 0, slots := 0, locals := 13 } : Room) s m #[(.ref a1)] below meth c s₁ [] 0 0 := Stand.of_body Bd
  have e0 : s₁.heap = h0 := by rw [← hh, Bd.state]; rfl
  have N0 := Fr.nil n0
  have KP0 : Keep h0 h0 [] := Keep.refl h0 _
  obtain ⟨G, hG⟩ : ∃ G : State, G = s₁.setTop (entryFrame m #[(.ref a1)] 1) := ⟨_, rfl⟩
  have pre0 : ∀ t, Steps p.tables e below (s₁.setTop (mkF m 0 #[.val (.ref a1)] [])) t → Steps p.tables e below G t := fun t k => hG ▸ castTop (ef_rm16_u m a1) k
  have K1 : ∀ t, Steps p.tables e below (s₁.setTop (mkF m 1 #[.val (.ref a1)] [(.ref a1)])) t → Steps p.tables e below G t := by
    intro t k
    refine pre0 t ?_
    refine XS.aloadN X0.here hx rfl (hb hby d16_0) rfl rfl ?_
    exact k
  obtain ⟨T2, X2, e2, st2⟩ := getF X0 hx hZ hown (host := "") (Or.inl (hw _ (List.mem_of_getElem? (i := 66) rfl))) Via.refl e0 FV (g := (mkF m 1 #[.val (.ref a1)] [(.ref a1)])) rfl rfl (hb hby d16_1)
  have K3 : ∀ t, Steps p.tables e below (T2.setTop (mkF m 4 #[.val (.ref a1)] [(.ref a2)])) t → Steps p.tables e below G t := fun t k => K1 t (st2 t k)
  obtain ⟨cl4, Ar4, -, S4, M4, -, -⟩ := id V2
  have K5 : ∀ t, Steps p.tables e below (T2.setTop (mkF m 5 #[.val (.ref a1)] [(.int (8 : Int32))])) t → Steps p.tables e below G t := by
    intro t k
    refine K3 t ?_
    refine X2.arraylength hx (by rw [e2]; exact Ar4.1) (State.isArrayOf_alike hZ.alike Ar4.2.1) (g := (mkF m 4 #[.val (.ref a1)] [(.ref a2)])) rfl rfl (hb hby d16_4) _ ?_
    rw [len_of S4 M4]
    exact k
  have K6 : ∀ t, Steps p.tables e below (T2.setTop (mkF m 6 #[.val (.ref a1)] [(.ref a1), (.int (8 : Int32))])) t → Steps p.tables e below G t := by
    intro t k
    refine K5 t ?_
    refine XS.aloadN X2.here hx rfl (hb hby d16_5) rfl rfl ?_
    exact k
  obtain ⟨cq7, kq7, q7a, q7b, q7c⟩ := isOf hZ e2 E1
  obtain ⟨_, _, ⟨T7, L7, kk7, nn7⟩, -, X7, ⟨Lc7, hQ7, lq7, yq7, zq7⟩, st7⟩ := X2.virtualBack hx (y := (⟨"java/lang/String", "coder", "()B"⟩ : MethodName)) (z := (⟨"java/lang/String", "coder", "()B"⟩ : MethodName)) hown (mvT hZ (hw _ (List.mem_of_getElem? (i := 78) rfl))) (mvT hZ (hw _ (List.mem_of_getElem? (i := 79) rfl))) (notFace_of_selects (args := #[]) (mvT hZ (hw _ (List.mem_of_getElem? (i := 81) rfl)))) (mvT hZ (hw _ (List.mem_of_getElem? (i := 81) rfl))) (mvT hZ (hw _ (List.mem_of_getElem? (i := 80) rfl))) (by decide) (backOf (W := 1) (rm17_u l Z a0 hw [] a1 cs fv h0 n0 Z0 FC SC hcs SA SH SL SF hfv O0) hZ (hw _ (List.mem_of_getElem? (i := 82) rfl)) (hw _ (List.mem_of_getElem? (i := 24) rfl)) (by decide) (by decide)) q7a q7c (g := (mkF m 6 #[.val (.ref a1)] [(.ref a1), (.int (8 : Int32))])) rfl (by rw [hml]; rfl) (Steps.refl _) (argsL := []) (rest := [(.int (8 : Int32))]) (lenOf pd_5 rfl) rfl (by show 2 * 0 + _ ≤ _; exact Nat.le_of_eq rfl) (hb hby d16_6) (fun _ _ => ⟨rfl, e2, (by decide : 0 + 0 ≤ _), (by decide : 0 + 0 ≤ _)⟩)
  dsimp only [Pt.U, Pt.locs, Pt.cells, Pt.slots] at X7 lq7 yq7 zq7 st7 hQ7
  subst lq7 yq7 zq7
  obtain ⟨rfl, Nq7, e7⟩ := hQ7
  have N8 := Fr.app N0 Nq7
  have K9 : ∀ t, Steps p.tables e below (T7.setTop (mkF m 9 #[.val (.ref a1)] [(.int (1 : Int32)), (.int (8 : Int32))])) t → Steps p.tables e below G t := fun t k => K6 t (st7.trans k)
  obtain ⟨fs, hr, hrun, hended, hW, hsame⟩ := X7.leave (v := some (.int (4 : Int32))) (fun h => by rw [Bd.returns] at h; cases h)
  have KF := K9
  rw [hG] at KF
  refine ⟨_, _, KF _ ?_, hrun, hended, _, _, rfl, ?_, ⟨_, rfl⟩, hW, hsame.mono (by decide) (by decide)⟩
  · refine XS.ishr X7.here hx rfl (hb hby d16_9) rfl ?_
    show Steps p.tables e below (T7.setTop (mkF m 10 #[.val (.ref a1)] [(.int (4 : Int32))])) _
    exact own_retI X7 hx Bd.returns (hb hby d16_10) hr
  · show Q16_u a1 a2 k2 vs cs fv h0 n0 _ T7.heap _
    rw [e7]
    exact ⟨rfl, N8, rfl⟩
def Q13_0 (a1 : Addr) (k1 : ClassId) (c0 c1 c2 c3 c4 c5 c6 c7 : Int32) (cs : Int32) (fv : Value) (h0 : Heap) (n0 : Nat) (v : Option Value) (h : Heap) (L : List Loc) : Prop := v = some (.int (own_g c0 c1)) ∧ Fr n0 L ∧ h = h0
theorem d13_0 : decode jdk_52_method_5_code 0 = .ok (.getstatic 44, 3) := by decide +kernel
theorem d13_3 : decode jdk_52_method_5_code 3 = .ok (.ifCond .ne 25, 3) := by decide +kernel
theorem d13_6 : decode jdk_52_method_5_code 6 = .ok (.iload_n 1, 1) := by decide +kernel
theorem d13_7 : decode jdk_52_method_5_code 7 = .ok (.ifCond .lt 11, 3) := by decide +kernel
theorem d13_10 : decode jdk_52_method_5_code 10 = .ok (.iload_n 1, 1) := by decide +kernel
theorem d13_11 : decode jdk_52_method_5_code 11 = .ok (.aload_n 0, 1) := by decide +kernel
theorem d13_12 : decode jdk_52_method_5_code 12 = .ok (.invokestatic 48, 3) := by decide +kernel
theorem d13_15 : decode jdk_52_method_5_code 15 = .ok (.if_icmp .lt 13, 3) := by decide +kernel
theorem d13_18 : decode jdk_52_method_5_code 18 = .ok (.new 52, 3) := by decide +kernel
theorem d13_21 : decode jdk_52_method_5_code 21 = .ok (.dup, 1) := by decide +kernel
theorem d13_22 : decode jdk_52_method_5_code 22 = .ok (.ldc 54, 2) := by decide +kernel
theorem d13_24 : decode jdk_52_method_5_code 24 = .ok (.invokespecial 56, 3) := by decide +kernel
theorem d13_27 : decode jdk_52_method_5_code 27 = .ok (.athrow, 1) := by decide +kernel
theorem d13_28 : decode jdk_52_method_5_code 28 = .ok (.iload_n 1, 1) := by decide +kernel
theorem d13_29 : decode jdk_52_method_5_code 29 = .ok (.iconst 1, 1) := by decide +kernel
theorem d13_30 : decode jdk_52_method_5_code 30 = .ok (.ishl, 1) := by decide +kernel
theorem d13_31 : decode jdk_52_method_5_code 31 = .ok (.istore_n 1, 1) := by decide +kernel
theorem d13_32 : decode jdk_52_method_5_code 32 = .ok (.aload_n 0, 1) := by decide +kernel
theorem d13_33 : decode jdk_52_method_5_code 33 = .ok (.iload_n 1, 1) := by decide +kernel
theorem d13_34 : decode jdk_52_method_5_code 34 = .ok (.iinc 1 1, 3) := by decide +kernel
theorem d13_37 : decode jdk_52_method_5_code 37 = .ok (.baload, 1) := by decide +kernel
theorem d13_38 : decode jdk_52_method_5_code 38 = .ok (.sipush 255, 3) := by decide +kernel
theorem d13_41 : decode jdk_52_method_5_code 41 = .ok (.iand, 1) := by decide +kernel
theorem d13_42 : decode jdk_52_method_5_code 42 = .ok (.getstatic 59, 3) := by decide +kernel
theorem d13_45 : decode jdk_52_method_5_code 45 = .ok (.ishl, 1) := by decide +kernel
theorem d13_46 : decode jdk_52_method_5_code 46 = .ok (.aload_n 0, 1) := by decide +kernel
theorem d13_47 : decode jdk_52_method_5_code 47 = .ok (.iload_n 1, 1) := by decide +kernel
theorem d13_48 : decode jdk_52_method_5_code 48 = .ok (.baload, 1) := by decide +kernel
theorem d13_49 : decode jdk_52_method_5_code 49 = .ok (.sipush 255, 3) := by decide +kernel
theorem d13_52 : decode jdk_52_method_5_code 52 = .ok (.iand, 1) := by decide +kernel
theorem d13_53 : decode jdk_52_method_5_code 53 = .ok (.getstatic 63, 3) := by decide +kernel
theorem d13_56 : decode jdk_52_method_5_code 56 = .ok (.ishl, 1) := by decide +kernel
theorem d13_57 : decode jdk_52_method_5_code 57 = .ok (.ior, 1) := by decide +kernel
theorem d13_58 : decode jdk_52_method_5_code 58 = .ok (.i2c, 1) := by decide +kernel
theorem d13_59 : decode jdk_52_method_5_code 59 = .ok (.ireturn, 1) := by decide +kernel
theorem ef_rm13_0 (m : MethodId) (x0 : Addr) : entryFrame m #[(.ref x0), (.int (0 : Int32))] 2 = mkF m 0 #[.val (.ref x0), .val (.int (0 : Int32))] [] := by first | (simp [entryFrame, mkF, argsToLocals, Value.category]; done) | rfl
set_option maxRecDepth 65536 in
set_option maxHeartbeats 40000000 in
theorem rm13_0 (l : Launch) (Z : State) (a0 : Array Value) (hw : ∀ d ∈ tables_1, d.before a0 Z = true) (ws : List Jvm.Cond) (a1 : Addr) (k1 : ClassId) (c0 c1 c2 c3 c4 c5 c6 c7 : Int32) (cs : Int32) (fv : Value) (h0 : Heap) (n0 : Nat) (Z0 : n0 ≤ h0.size) (V1 : Arv Z h0 a1 k1 .byte (8 : Int32) [(.int c0), (.int c1), (.int c2), (.int c3), (.int c4), (.int c5), (.int c6), (.int c7)] (Value.int (0 : Int32))) (SC : Sta Z Z.heap "java/lang/String" "COMPACT_STRINGS" "Z" (.int cs)) (hcs : ¬ cs = 0) (SA : Sta Z Z.heap "java/lang/StringUTF16" "$assertionsDisabled" "Z" (.int (1 : Int32))) (SH : Sta Z Z.heap "java/lang/StringUTF16" "HI_BYTE_SHIFT" "I" (.int (0 : Int32))) (SL : Sta Z Z.heap "java/lang/StringUTF16" "LO_BYTE_SHIFT" "I" (.int (8 : Int32))) (SF : Sta Z Z.heap "jdk/internal/util/Preconditions" "SIOOBE_FORMATTER" "Ljava/util/function/BiFunction;" fv) (hfv : fv = .null ∨ ∃ a, fv = .ref a) (O0 : Old Z n0 h0) :
    MetFree l (⟨"java/lang/StringUTF16", "getChar", "([BI)C"⟩ : MethodName) (head1 (Jvm.Cond.code (⟨"java/lang/StringUTF16", "getChar", "([BI)C"⟩ : MethodName) jdk_52_method_5_code 2 (some .char) :: ws) ({ frames := 0, cells := 0, slots := 0, locals := 0 } : Room)) (fun a U => a = #[(.ref a1), (.int (0 : Int32))] ∧ Z.Warmed39 U.vm ∧ U.heap = h0) (fun _ _ _ _ _ => True) (fun _ U o U' => ∃ v L, o = .returned v ∧ Q13_0 a1 k1 c0 c1 c2 c3 c4 c5 c6 c7 cs fv h0 n0 v U'.heap L ∧ FrameEnd U o U' L ({ frames := 0, cells := 0, slots := 0, locals := 0 } : Room).cells ({ frames := 0, cells := 0, slots := 0, locals := 0 } : Room).slots) := by
  refine MetFree.of_bodySF (plainFor_of_name pn_java_lang_StringUTF16) hisR ?_
  intro p e s m args below meth c s₁ Bd hml0 hP hK
  obtain ⟨rfl, hZ, hh⟩ := hP
  have hx := Bd.exec
  have hby := Bd.bytes
  have hml : c.maxLocals = 2 := hml0
  have hown : s.vm.findClass "java/lang/StringUTF16" = some m.cls := findClass_of_methodNamed Bd.named
  have hnm := (name_of_methodNamed Bd.named Bd.method).1
  have X0 : Stand p l e ({ frames := 0, cells := 0, slots := 0, locals := 0 } : Room) s m #[(.ref a1), (.int (0 : Int32))] below meth c s₁ [] 0 0 := Stand.of_body Bd
  have e0 : s₁.heap = h0 := by rw [← hh, Bd.state]; rfl
  have N0 := Fr.nil n0
  have KP0 : Keep h0 h0 [] := Keep.refl h0 _
  obtain ⟨G, hG⟩ : ∃ G : State, G = s₁.setTop (entryFrame m #[(.ref a1), (.int (0 : Int32))] 2) := ⟨_, rfl⟩
  have pre0 : ∀ t, Steps p.tables e below (s₁.setTop (mkF m 0 #[.val (.ref a1), .val (.int (0 : Int32))] [])) t → Steps p.tables e below G t := fun t k => hG ▸ castTop (ef_rm13_0 m a1) k
  obtain ⟨T1, X1, e1, st1⟩ := getS2 X0 hx hZ hown (host := "") (Or.inl (hw _ (List.mem_of_getElem? (i := 55) rfl))) Via.refl e0 (Sta.ext O0.2 SA) (g := (mkF m 0 #[.val (.ref a1), .val (.int (0 : Int32))] [])) rfl (hb hby d13_0)
  have K2 : ∀ t, Steps p.tables e below (T1.setTop (mkF m 3 #[.val (.ref a1), .val (.int (0 : Int32))] [(.int (1 : Int32))])) t → Steps p.tables e below G t := fun t k => pre0 t (st1 t k)
  have K3 : ∀ t, Steps p.tables e below (T1.setTop (mkF m 37 #[.val (.ref a1), .val (.int (1 : Int32))] [(.int (0 : Int32)), (.ref a1)])) t → Steps p.tables e below G t := by
    intro t k
    refine K2 t ?_
    refine XS.ifYes X1.here hx rfl (pc0 := 3) (pc' := 28) rfl (hb hby d13_3) rfl ((if0 _ _).trans (feq (by decide)).2) (by decide) (by decide) ?_
    refine XS.iloadN X1.here hx rfl (hb hby d13_28) rfl ?_
    refine XS.iconst X1.here hx rfl (hb hby d13_29) ?_
    refine XS.ishl X1.here hx rfl (hb hby d13_30) rfl ?_
    refine XS.istoreN X1.here hx rfl (hb hby d13_31) rfl (l' := #[.val (.ref a1), .val (.int (0 : Int32))]) rfl ?_
    refine XS.aloadN X1.here hx rfl (hb hby d13_32) rfl rfl ?_
    refine XS.iloadN X1.here hx rfl (hb hby d13_33) rfl ?_
    refine XS.iinc X1.here hx rfl (hb hby d13_34) rfl (l' := #[.val (.ref a1), .val (.int (1 : Int32))]) rfl ?_
    exact k
  obtain ⟨cl4, Ar4, qc4, S4, M4, Ha4, Ga4⟩ := id V1
  have hin4 : ¬ ((0 : Int32) < 0 ∨ cl4.slots.size ≤ ((0 : Int32)).toNatClampNeg) := inb_of S4 ⟨by decide, by decide⟩
  have hat4 : cl4.slots[((0 : Int32)).toNatClampNeg]? = some (.int c0) := Ha4.at hin4 rfl
  have K5 : ∀ t, Steps p.tables e below (T1.setTop (mkF m 38 #[.val (.ref a1), .val (.int (1 : Int32))] [(.int c0)])) t → Steps p.tables e below G t := fun t k => K3 t (X1.baloadBytes hx (j := (0 : Int32)) (v := (.int c0)) (by rw [e1]; exact Ar4.1) (State.isArrayOf_alike hZ.alike Ar4.2.1) Ar4.2.2 hin4 hat4 (g := (mkF m 37 #[.val (.ref a1), .val (.int (1 : Int32))] [(.int (0 : Int32)), (.ref a1)])) rfl rfl (hb hby d13_37) _ k)
  have K6 : ∀ t, Steps p.tables e below (T1.setTop (mkF m 42 #[.val (.ref a1), .val (.int (1 : Int32))] [(.int (c0 &&& (255 : Int32)))])) t → Steps p.tables e below G t := by
    intro t k
    refine K5 t ?_
    refine XS.sipush X1.here hx rfl (hb hby d13_38) ?_
    refine XS.iand X1.here hx rfl (hb hby d13_41) rfl ?_
    exact k
  obtain ⟨T7, X7, e7, st7⟩ := getS2 X1 hx hZ hown (host := "") (Or.inl (hw _ (List.mem_of_getElem? (i := 56) rfl))) Via.refl e1 (Sta.ext O0.2 SH) (g := (mkF m 42 #[.val (.ref a1), .val (.int (1 : Int32))] [(.int (c0 &&& (255 : Int32)))])) rfl (hb hby d13_42)
  have K8 : ∀ t, Steps p.tables e below (T7.setTop (mkF m 45 #[.val (.ref a1), .val (.int (1 : Int32))] [(.int (0 : Int32)), (.int (c0 &&& (255 : Int32)))])) t → Steps p.tables e below G t := fun t k => K6 t (st7 t k)
  have K9 : ∀ t, Steps p.tables e below (T7.setTop (mkF m 48 #[.val (.ref a1), .val (.int (1 : Int32))] [(.int (1 : Int32)), (.ref a1), (.int ((c0 &&& (255 : Int32)) <<< ((0 : Int32) &&& 31)))])) t → Steps p.tables e below G t := by
    intro t k
    refine K8 t ?_
    refine XS.ishl X7.here hx rfl (hb hby d13_45) rfl ?_
    refine XS.aloadN X7.here hx rfl (hb hby d13_46) rfl rfl ?_
    refine XS.iloadN X7.here hx rfl (hb hby d13_47) rfl ?_
    exact k
  obtain ⟨cl10, Ar10, qc10, S10, M10, Ha10, Ga10⟩ := id V1
  have hin10 : ¬ ((1 : Int32) < 0 ∨ cl10.slots.size ≤ ((1 : Int32)).toNatClampNeg) := inb_of S10 ⟨by decide, by decide⟩
  have hat10 : cl10.slots[((1 : Int32)).toNatClampNeg]? = some (.int c1) := Ha10.at hin10 rfl
  have K11 : ∀ t, Steps p.tables e below (T7.setTop (mkF m 49 #[.val (.ref a1), .val (.int (1 : Int32))] [(.int c1), (.int ((c0 &&& (255 : Int32)) <<< ((0 : Int32) &&& 31)))])) t → Steps p.tables e below G t := fun t k => K9 t (X7.baloadBytes hx (j := (1 : Int32)) (v := (.int c1)) (by rw [e7]; exact Ar10.1) (State.isArrayOf_alike hZ.alike Ar10.2.1) Ar10.2.2 hin10 hat10 (g := (mkF m 48 #[.val (.ref a1), .val (.int (1 : Int32))] [(.int (1 : Int32)), (.ref a1), (.int ((c0 &&& (255 : Int32)) <<< ((0 : Int32) &&& 31)))])) rfl rfl (hb hby d13_48) _ k)
  have K12 : ∀ t, Steps p.tables e below (T7.setTop (mkF m 53 #[.val (.ref a1), .val (.int (1 : Int32))] [(.int (c1 &&& (255 : Int32))), (.int ((c0 &&& (255 : Int32)) <<< ((0 : Int32) &&& 31)))])) t → Steps p.tables e below G t := by
    intro t k
    refine K11 t ?_
    refine XS.sipush X7.here hx rfl (hb hby d13_49) ?_
    refine XS.iand X7.here hx rfl (hb hby d13_52) rfl ?_
    exact k
  obtain ⟨T13, X13, e13, st13⟩ := getS2 X7 hx hZ hown (host := "") (Or.inl (hw _ (List.mem_of_getElem? (i := 57) rfl))) Via.refl e7 (Sta.ext O0.2 SL) (g := (mkF m 53 #[.val (.ref a1), .val (.int (1 : Int32))] [(.int (c1 &&& (255 : Int32))), (.int ((c0 &&& (255 : Int32)) <<< ((0 : Int32) &&& 31)))])) rfl (hb hby d13_53)
  have K14 : ∀ t, Steps p.tables e below (T13.setTop (mkF m 56 #[.val (.ref a1), .val (.int (1 : Int32))] [(.int (8 : Int32)), (.int (c1 &&& (255 : Int32))), (.int ((c0 &&& (255 : Int32)) <<< ((0 : Int32) &&& 31)))])) t → Steps p.tables e below G t := fun t k => K12 t (st13 t k)
  obtain ⟨fs, hr, hrun, hended, hW, hsame⟩ := X13.leave (v := some (.int (nar .char ((((c0 &&& (255 : Int32)) <<< ((0 : Int32) &&& 31)) ||| ((c1 &&& (255 : Int32)) <<< ((8 : Int32) &&& 31))).toUInt32.toUInt16.toUInt32.toInt32)))) (fun h => by rw [Bd.returns] at h; cases h)
  have KF := K14
  rw [hG] at KF
  refine ⟨_, _, KF _ ?_, hrun, hended, _, _, rfl, ?_, ⟨_, rfl⟩, hW, hsame.mono (by decide) (by decide)⟩
  · refine XS.ishl X13.here hx rfl (hb hby d13_56) rfl ?_
    refine XS.ior X13.here hx rfl (hb hby d13_57) rfl ?_
    refine XS.i2c X13.here hx rfl (hb hby d13_58) rfl ?_
    show Steps p.tables e below (T13.setTop (mkF m 59 #[.val (.ref a1), .val (.int (1 : Int32))] [(.int ((((c0 &&& (255 : Int32)) <<< ((0 : Int32) &&& 31)) ||| ((c1 &&& (255 : Int32)) <<< ((8 : Int32) &&& 31))).toUInt32.toUInt16.toUInt32.toInt32))])) _
    exact retN X13 hx (t := .char) Bd.returns (by simp) (hb hby d13_59) hr
  · show Q13_0 a1 k1 c0 c1 c2 c3 c4 c5 c6 c7 cs fv h0 n0 _ T13.heap _
    rw [e13]
    exact ⟨rfl, N0, rfl⟩
def Q12_0 (Z : State) (a1 : Addr) (k1 : ClassId) (c0 c1 c2 c3 c4 c5 c6 c7 : Int32) (p3 : Int32) (h0 : Heap) (n0 : Nat) (v : Option Value) (h : Heap) (L : List Loc) : Prop := v = none ∧ Fr n0 L ∧ Keep h0 h [a1] ∧ Arv Z h a1 k1 .byte (8 : Int32) [(.int (own_b0 p3)), (.int (own_b1 p3)), (.int c2), (.int c3), (.int c4), (.int c5), (.int c6), (.int c7)] (Value.int (0 : Int32))
theorem d12_0 : decode jdk_52_method_4_code 0 = .ok (.getstatic 44, 3) := by decide +kernel
theorem d12_3 : decode jdk_52_method_4_code 3 = .ok (.ifCond .ne 25, 3) := by decide +kernel
theorem d12_6 : decode jdk_52_method_4_code 6 = .ok (.iload_n 1, 1) := by decide +kernel
theorem d12_7 : decode jdk_52_method_4_code 7 = .ok (.ifCond .lt 11, 3) := by decide +kernel
theorem d12_10 : decode jdk_52_method_4_code 10 = .ok (.iload_n 1, 1) := by decide +kernel
theorem d12_11 : decode jdk_52_method_4_code 11 = .ok (.aload_n 0, 1) := by decide +kernel
theorem d12_12 : decode jdk_52_method_4_code 12 = .ok (.invokestatic 48, 3) := by decide +kernel
theorem d12_15 : decode jdk_52_method_4_code 15 = .ok (.if_icmp .lt 13, 3) := by decide +kernel
theorem d12_18 : decode jdk_52_method_4_code 18 = .ok (.new 52, 3) := by decide +kernel
theorem d12_21 : decode jdk_52_method_4_code 21 = .ok (.dup, 1) := by decide +kernel
theorem d12_22 : decode jdk_52_method_4_code 22 = .ok (.ldc 54, 2) := by decide +kernel
theorem d12_24 : decode jdk_52_method_4_code 24 = .ok (.invokespecial 56, 3) := by decide +kernel
theorem d12_27 : decode jdk_52_method_4_code 27 = .ok (.athrow, 1) := by decide +kernel
theorem d12_28 : decode jdk_52_method_4_code 28 = .ok (.iload_n 1, 1) := by decide +kernel
theorem d12_29 : decode jdk_52_method_4_code 29 = .ok (.iconst 1, 1) := by decide +kernel
theorem d12_30 : decode jdk_52_method_4_code 30 = .ok (.ishl, 1) := by decide +kernel
theorem d12_31 : decode jdk_52_method_4_code 31 = .ok (.istore_n 1, 1) := by decide +kernel
theorem d12_32 : decode jdk_52_method_4_code 32 = .ok (.aload_n 0, 1) := by decide +kernel
theorem d12_33 : decode jdk_52_method_4_code 33 = .ok (.iload_n 1, 1) := by decide +kernel
theorem d12_34 : decode jdk_52_method_4_code 34 = .ok (.iinc 1 1, 3) := by decide +kernel
theorem d12_37 : decode jdk_52_method_4_code 37 = .ok (.iload_n 2, 1) := by decide +kernel
theorem d12_38 : decode jdk_52_method_4_code 38 = .ok (.getstatic 59, 3) := by decide +kernel
theorem d12_41 : decode jdk_52_method_4_code 41 = .ok (.ishr, 1) := by decide +kernel
theorem d12_42 : decode jdk_52_method_4_code 42 = .ok (.i2b, 1) := by decide +kernel
theorem d12_43 : decode jdk_52_method_4_code 43 = .ok (.bastore, 1) := by decide +kernel
theorem d12_44 : decode jdk_52_method_4_code 44 = .ok (.aload_n 0, 1) := by decide +kernel
theorem d12_45 : decode jdk_52_method_4_code 45 = .ok (.iload_n 1, 1) := by decide +kernel
theorem d12_46 : decode jdk_52_method_4_code 46 = .ok (.iload_n 2, 1) := by decide +kernel
theorem d12_47 : decode jdk_52_method_4_code 47 = .ok (.getstatic 63, 3) := by decide +kernel
theorem d12_50 : decode jdk_52_method_4_code 50 = .ok (.ishr, 1) := by decide +kernel
theorem d12_51 : decode jdk_52_method_4_code 51 = .ok (.i2b, 1) := by decide +kernel
theorem d12_52 : decode jdk_52_method_4_code 52 = .ok (.bastore, 1) := by decide +kernel
theorem d12_53 : decode jdk_52_method_4_code 53 = .ok (.return_, 1) := by decide +kernel
theorem ef_rm12_0 (m : MethodId) (x0 : Addr) (x2 : Int32) : entryFrame m #[(.ref x0), (.int (0 : Int32)), (.int x2)] 3 = mkF m 0 #[.val (.ref x0), .val (.int (0 : Int32)), .val (.int x2)] [] := by first | (simp [entryFrame, mkF, argsToLocals, Value.category]; done) | rfl
set_option maxRecDepth 65536 in
set_option maxHeartbeats 40000000 in
theorem rm12_0 (l : Launch) (Z : State) (a0 : Array Value) (hw : ∀ d ∈ tables_1, d.before a0 Z = true) (ws : List Jvm.Cond) (a1 : Addr) (k1 : ClassId) (c0 c1 c2 c3 c4 c5 c6 c7 : Int32) (p3 : Int32) (cs : Int32) (fv : Value) (h0 : Heap) (n0 : Nat) (Z0 : n0 ≤ h0.size) (V1 : Arv Z h0 a1 k1 .byte (8 : Int32) [(.int c0), (.int c1), (.int c2), (.int c3), (.int c4), (.int c5), (.int c6), (.int c7)] (Value.int (0 : Int32))) (g1 : n0 ≤ a1) (SC : Sta Z Z.heap "java/lang/String" "COMPACT_STRINGS" "Z" (.int cs)) (hcs : ¬ cs = 0) (SA : Sta Z Z.heap "java/lang/StringUTF16" "$assertionsDisabled" "Z" (.int (1 : Int32))) (SH : Sta Z Z.heap "java/lang/StringUTF16" "HI_BYTE_SHIFT" "I" (.int (0 : Int32))) (SL : Sta Z Z.heap "java/lang/StringUTF16" "LO_BYTE_SHIFT" "I" (.int (8 : Int32))) (SF : Sta Z Z.heap "jdk/internal/util/Preconditions" "SIOOBE_FORMATTER" "Ljava/util/function/BiFunction;" fv) (hfv : fv = .null ∨ ∃ a, fv = .ref a) (O0 : Old Z n0 h0) :
    MetFree l (⟨"java/lang/StringUTF16", "putChar", "([BII)V"⟩ : MethodName) (head1 (Jvm.Cond.code (⟨"java/lang/StringUTF16", "putChar", "([BII)V"⟩ : MethodName) jdk_52_method_4_code 3 none :: ws) ({ frames := 0, cells := 0, slots := 0, locals := 0 } : Room)) (fun a U => a = #[(.ref a1), (.int (0 : Int32)), (.int p3)] ∧ Z.Warmed39 U.vm ∧ U.heap = h0) (fun _ _ _ _ _ => True) (fun _ U o U' => ∃ v L, o = .returned v ∧ Q12_0 Z a1 k1 c0 c1 c2 c3 c4 c5 c6 c7 p3 h0 n0 v U'.heap L ∧ FrameEnd U o U' L ({ frames := 0, cells := 0, slots := 0, locals := 0 } : Room).cells ({ frames := 0, cells := 0, slots := 0, locals := 0 } : Room).slots) := by
  refine MetFree.of_bodySF (plainFor_of_name pn_java_lang_StringUTF16) hisR ?_
  intro p e s m args below meth c s₁ Bd hml0 hP hK
  obtain ⟨rfl, hZ, hh⟩ := hP
  have hx := Bd.exec
  have hby := Bd.bytes
  have hml : c.maxLocals = 3 := hml0
  have hown : s.vm.findClass "java/lang/StringUTF16" = some m.cls := findClass_of_methodNamed Bd.named
  have hnm := (name_of_methodNamed Bd.named Bd.method).1
  have X0 : Stand p l e ({ frames := 0, cells := 0, slots := 0, locals := 0 } : Room) s m #[(.ref a1), (.int (0 : Int32)), (.int p3)] below meth c s₁ [] 0 0 := Stand.of_body Bd
  have e0 : s₁.heap = h0 := by rw [← hh, Bd.state]; rfl
  have N0 := Fr.nil n0
  have KP0 : Keep h0 h0 [a1] := Keep.refl h0 _
  obtain ⟨G, hG⟩ : ∃ G : State, G = s₁.setTop (entryFrame m #[(.ref a1), (.int (0 : Int32)), (.int p3)] 3) := ⟨_, rfl⟩
  have pre0 : ∀ t, Steps p.tables e below (s₁.setTop (mkF m 0 #[.val (.ref a1), .val (.int (0 : Int32)), .val (.int p3)] [])) t → Steps p.tables e below G t := fun t k => hG ▸ castTop (ef_rm12_0 m a1 p3) k
  obtain ⟨T1, X1, e1, st1⟩ := getS2 X0 hx hZ hown (host := "") (Or.inl (hw _ (List.mem_of_getElem? (i := 55) rfl))) Via.refl e0 (Sta.ext O0.2 SA) (g := (mkF m 0 #[.val (.ref a1), .val (.int (0 : Int32)), .val (.int p3)] [])) rfl (hb hby d12_0)
  have K2 : ∀ t, Steps p.tables e below (T1.setTop (mkF m 3 #[.val (.ref a1), .val (.int (0 : Int32)), .val (.int p3)] [(.int (1 : Int32))])) t → Steps p.tables e below G t := fun t k => pre0 t (st1 t k)
  have K3 : ∀ t, Steps p.tables e below (T1.setTop (mkF m 38 #[.val (.ref a1), .val (.int (1 : Int32)), .val (.int p3)] [(.int p3), (.int (0 : Int32)), (.ref a1)])) t → Steps p.tables e below G t := by
    intro t k
    refine K2 t ?_
    refine XS.ifYes X1.here hx rfl (pc0 := 3) (pc' := 28) rfl (hb hby d12_3) rfl ((if0 _ _).trans (feq (by decide)).2) (by decide) (by decide) ?_
    refine XS.iloadN X1.here hx rfl (hb hby d12_28) rfl ?_
    refine XS.iconst X1.here hx rfl (hb hby d12_29) ?_
    refine XS.ishl X1.here hx rfl (hb hby d12_30) rfl ?_
    refine XS.istoreN X1.here hx rfl (hb hby d12_31) rfl (l' := #[.val (.ref a1), .val (.int (0 : Int32)), .val (.int p3)]) rfl ?_
    refine XS.aloadN X1.here hx rfl (hb hby d12_32) rfl rfl ?_
    refine XS.iloadN X1.here hx rfl (hb hby d12_33) rfl ?_
    refine XS.iinc X1.here hx rfl (hb hby d12_34) rfl (l' := #[.val (.ref a1), .val (.int (1 : Int32)), .val (.int p3)]) rfl ?_
    refine XS.iloadN X1.here hx rfl (hb hby d12_37) rfl ?_
    exact k
  obtain ⟨T4, X4, e4, st4⟩ := getS2 X1 hx hZ hown (host := "") (Or.inl (hw _ (List.mem_of_getElem? (i := 56) rfl))) Via.refl e1 (Sta.ext O0.2 SH) (g := (mkF m 38 #[.val (.ref a1), .val (.int (1 : Int32)), .val (.int p3)] [(.int p3), (.int (0 : Int32)), (.ref a1)])) rfl (hb hby d12_38)
  have K5 : ∀ t, Steps p.tables e below (T4.setTop (mkF m 41 #[.val (.ref a1), .val (.int (1 : Int32)), .val (.int p3)] [(.int (0 : Int32)), (.int p3), (.int (0 : Int32)), (.ref a1)])) t → Steps p.tables e below G t := fun t k => K3 t (st4 t k)
  have K6 : ∀ t, Steps p.tables e below (T4.setTop (mkF m 43 #[.val (.ref a1), .val (.int (1 : Int32)), .val (.int p3)] [(.int ((p3 >>> ((0 : Int32) &&& 31)).toInt8.toInt32)), (.int (0 : Int32)), (.ref a1)])) t → Steps p.tables e below G t := by
    intro t k
    refine K5 t ?_
    refine XS.ishr X4.here hx rfl (hb hby d12_41) rfl ?_
    refine XS.i2b X4.here hx rfl (hb hby d12_42) rfl ?_
    exact k
  obtain ⟨cl7, Ar7, qc7, S7, M7, Ha7, Ga7⟩ := id V1
  have hin7 : ¬ ((0 : Int32) < 0 ∨ cl7.slots.size ≤ ((0 : Int32)).toNatClampNeg) := inb_of S7 ⟨by decide, by decide⟩
  obtain ⟨T7, h7, X7, e7, W7, st7⟩ := stB X4 hx hZ e4 Ar7 (j := (0 : Int32)) hin7 (g := (mkF m 43 #[.val (.ref a1), .val (.int (1 : Int32)), .val (.int p3)] [(.int ((p3 >>> ((0 : Int32) &&& 31)).toInt8.toInt32)), (.int (0 : Int32)), (.ref a1)])) rfl rfl (hb hby d12_43)
  have V7 : Arv Z h7 a1 k1 .byte (8 : Int32) [(.int (((p3 >>> ((0 : Int32) &&& 31)).toInt8.toInt32).toInt8.toInt32)), (.int c1), (.int c2), (.int c3), (.int c4), (.int c5), (.int c6), (.int c7)] (Value.int (0 : Int32)) := Arv.set Ar7 qc7 S7 M7 Ha7 Ga7 (fits_nar_byte _) W7 0 rfl (Nat.le_of_ble_eq_true rfl)
  have K8 : ∀ t, Steps p.tables e below (T7.setTop (mkF m 44 #[.val (.ref a1), .val (.int (1 : Int32)), .val (.int p3)] [])) t → Steps p.tables e below G t := fun t k => K6 t (st7 t k)
  have f9 := O0.wr W7 g1
  have Z10 : n0 ≤ h7.size := Nat.le_trans Z0 (Keep.of_wr W7).1
  have KP11 : Keep h0 h7 [a1] := KP0.wr W7 (Or.inl (List.mem_of_getElem? (i := 0) rfl))
  have N12 := Fr.snoc X7 N0 g1
  have K13 : ∀ t, Steps p.tables e below (T7.setTop (mkF m 47 #[.val (.ref a1), .val (.int (1 : Int32)), .val (.int p3)] [(.int p3), (.int (1 : Int32)), (.ref a1)])) t → Steps p.tables e below G t := by
    intro t k
    refine K8 t ?_
    refine XS.aloadN X7.here hx rfl (hb hby d12_44) rfl rfl ?_
    refine XS.iloadN X7.here hx rfl (hb hby d12_45) rfl ?_
    refine XS.iloadN X7.here hx rfl (hb hby d12_46) rfl ?_
    exact k
  obtain ⟨T14, X14, e14, st14⟩ := getS2 X7 hx hZ hown (host := "") (Or.inl (hw _ (List.mem_of_getElem? (i := 57) rfl))) Via.refl e7 (Sta.ext f9.2 SL) (g := (mkF m 47 #[.val (.ref a1), .val (.int (1 : Int32)), .val (.int p3)] [(.int p3), (.int (1 : Int32)), (.ref a1)])) rfl (hb hby d12_47)
  have K15 : ∀ t, Steps p.tables e below (T14.setTop (mkF m 50 #[.val (.ref a1), .val (.int (1 : Int32)), .val (.int p3)] [(.int (8 : Int32)), (.int p3), (.int (1 : Int32)), (.ref a1)])) t → Steps p.tables e below G t := fun t k => K13 t (st14 t k)
  have K16 : ∀ t, Steps p.tables e below (T14.setTop (mkF m 52 #[.val (.ref a1), .val (.int (1 : Int32)), .val (.int p3)] [(.int ((p3 >>> ((8 : Int32) &&& 31)).toInt8.toInt32)), (.int (1 : Int32)), (.ref a1)])) t → Steps p.tables e below G t := by
    intro t k
    refine K15 t ?_
    refine XS.ishr X14.here hx rfl (hb hby d12_50) rfl ?_
    refine XS.i2b X14.here hx rfl (hb hby d12_51) rfl ?_
    exact k
  obtain ⟨cl17, Ar17, qc17, S17, M17, Ha17, Ga17⟩ := id V7
  have hin17 : ¬ ((1 : Int32) < 0 ∨ cl17.slots.size ≤ ((1 : Int32)).toNatClampNeg) := inb_of S17 ⟨by decide, by decide⟩
  obtain ⟨T17, h17, X17, e17, W17, st17⟩ := stB X14 hx hZ e14 Ar17 (j := (1 : Int32)) hin17 (g := (mkF m 52 #[.val (.ref a1), .val (.int (1 : Int32)), .val (.int p3)] [(.int ((p3 >>> ((8 : Int32) &&& 31)).toInt8.toInt32)), (.int (1 : Int32)), (.ref a1)])) rfl rfl (hb hby d12_52)
  have V17 : Arv Z h17 a1 k1 .byte (8 : Int32) [(.int (((p3 >>> ((0 : Int32) &&& 31)).toInt8.toInt32).toInt8.toInt32)), (.int (((p3 >>> ((8 : Int32) &&& 31)).toInt8.toInt32).toInt8.toInt32)), (.int c2), (.int c3), (.int c4), (.int c5), (.int c6), (.int c7)] (Value.int (0 : Int32)) := Arv.set Ar17 qc17 S17 M17 Ha17 Ga17 (fits_nar_byte _) W17 1 rfl (Nat.le_of_ble_eq_true rfl)
  have K18 : ∀ t, Steps p.tables e below (T17.setTop (mkF m 53 #[.val (.ref a1), .val (.int (1 : Int32)), .val (.int p3)] [])) t → Steps p.tables e below G t := fun t k => K16 t (st17 t k)
  have f19 := f9.wr W17 g1
  have Z20 : n0 ≤ h17.size := Nat.le_trans Z10 (Keep.of_wr W17).1
  have KP21 : Keep h0 h17 [a1] := KP11.wr W17 (Or.inl (List.mem_of_getElem? (i := 0) rfl))
  have N22 := Fr.snoc X17 N12 g1
  obtain ⟨fs, hr, hrun, hended, hW, hsame⟩ := X17.leave (v := none) (fun _ => rfl)
  have KF := K18
  rw [hG] at KF
  refine ⟨_, _, KF _ ?_, hrun, hended, _, _, rfl, ?_, ⟨_, rfl⟩, hW, hsame.mono (by decide) (by decide)⟩
  · show Steps p.tables e below (T17.setTop (mkF m 53 #[.val (.ref a1), .val (.int (1 : Int32)), .val (.int p3)] [])) _
    exact X17.returnOut hx Bd.returns (hb hby d12_53) hr
  · show Q12_0 Z a1 k1 c0 c1 c2 c3 c4 c5 c6 c7 p3 h0 n0 _ T17.heap _
    rw [e17]
    exact ⟨rfl, N22, KP21, V17⟩
def Q13_1 (a1 : Addr) (k1 : ClassId) (c0 c1 c2 c3 c4 c5 c6 c7 : Int32) (cs : Int32) (fv : Value) (h0 : Heap) (n0 : Nat) (v : Option Value) (h : Heap) (L : List Loc) : Prop := v = some (.int (own_g c2 c3)) ∧ Fr n0 L ∧ h = h0
theorem ef_rm13_1 (m : MethodId) (x0 : Addr) : entryFrame m #[(.ref x0), (.int (1 : Int32))] 2 = mkF m 0 #[.val (.ref x0), .val (.int (1 : Int32))] [] := by first | (simp [entryFrame, mkF, argsToLocals, Value.category]; done) | rfl
set_option maxRecDepth 65536 in
set_option maxHeartbeats 40000000 in
theorem rm13_1 (l : Launch) (Z : State) (a0 : Array Value) (hw : ∀ d ∈ tables_1, d.before a0 Z = true) (ws : List Jvm.Cond) (a1 : Addr) (k1 : ClassId) (c0 c1 c2 c3 c4 c5 c6 c7 : Int32) (cs : Int32) (fv : Value) (h0 : Heap) (n0 : Nat) (Z0 : n0 ≤ h0.size) (V1 : Arv Z h0 a1 k1 .byte (8 : Int32) [(.int c0), (.int c1), (.int c2), (.int c3), (.int c4), (.int c5), (.int c6), (.int c7)] (Value.int (0 : Int32))) (SC : Sta Z Z.heap "java/lang/String" "COMPACT_STRINGS" "Z" (.int cs)) (hcs : ¬ cs = 0) (SA : Sta Z Z.heap "java/lang/StringUTF16" "$assertionsDisabled" "Z" (.int (1 : Int32))) (SH : Sta Z Z.heap "java/lang/StringUTF16" "HI_BYTE_SHIFT" "I" (.int (0 : Int32))) (SL : Sta Z Z.heap "java/lang/StringUTF16" "LO_BYTE_SHIFT" "I" (.int (8 : Int32))) (SF : Sta Z Z.heap "jdk/internal/util/Preconditions" "SIOOBE_FORMATTER" "Ljava/util/function/BiFunction;" fv) (hfv : fv = .null ∨ ∃ a, fv = .ref a) (O0 : Old Z n0 h0) :
    MetFree l (⟨"java/lang/StringUTF16", "getChar", "([BI)C"⟩ : MethodName) (head1 (Jvm.Cond.code (⟨"java/lang/StringUTF16", "getChar", "([BI)C"⟩ : MethodName) jdk_52_method_5_code 2 (some .char) :: ws) ({ frames := 0, cells := 0, slots := 0, locals := 0 } : Room)) (fun a U => a = #[(.ref a1), (.int (1 : Int32))] ∧ Z.Warmed39 U.vm ∧ U.heap = h0) (fun _ _ _ _ _ => True) (fun _ U o U' => ∃ v L, o = .returned v ∧ Q13_1 a1 k1 c0 c1 c2 c3 c4 c5 c6 c7 cs fv h0 n0 v U'.heap L ∧ FrameEnd U o U' L ({ frames := 0, cells := 0, slots := 0, locals := 0 } : Room).cells ({ frames := 0, cells := 0, slots := 0, locals := 0 } : Room).slots) := by
  refine MetFree.of_bodySF (plainFor_of_name pn_java_lang_StringUTF16) hisR ?_
  intro p e s m args below meth c s₁ Bd hml0 hP hK
  obtain ⟨rfl, hZ, hh⟩ := hP
  have hx := Bd.exec
  have hby := Bd.bytes
  have hml : c.maxLocals = 2 := hml0
  have hown : s.vm.findClass "java/lang/StringUTF16" = some m.cls := findClass_of_methodNamed Bd.named
  have hnm := (name_of_methodNamed Bd.named Bd.method).1
  have X0 : Stand p l e ({ frames := 0, cells := 0, slots := 0, locals := 0 } : Room) s m #[(.ref a1), (.int (1 : Int32))] below meth c s₁ [] 0 0 := Stand.of_body Bd
  have e0 : s₁.heap = h0 := by rw [← hh, Bd.state]; rfl
  have N0 := Fr.nil n0
  have KP0 : Keep h0 h0 [] := Keep.refl h0 _
  obtain ⟨G, hG⟩ : ∃ G : State, G = s₁.setTop (entryFrame m #[(.ref a1), (.int (1 : Int32))] 2) := ⟨_, rfl⟩
  have pre0 : ∀ t, Steps p.tables e below (s₁.setTop (mkF m 0 #[.val (.ref a1), .val (.int (1 : Int32))] [])) t → Steps p.tables e below G t := fun t k => hG ▸ castTop (ef_rm13_1 m a1) k
  obtain ⟨T1, X1, e1, st1⟩ := getS2 X0 hx hZ hown (host := "") (Or.inl (hw _ (List.mem_of_getElem? (i := 55) rfl))) Via.refl e0 (Sta.ext O0.2 SA) (g := (mkF m 0 #[.val (.ref a1), .val (.int (1 : Int32))] [])) rfl (hb hby d13_0)
  have K2 : ∀ t, Steps p.tables e below (T1.setTop (mkF m 3 #[.val (.ref a1), .val (.int (1 : Int32))] [(.int (1 : Int32))])) t → Steps p.tables e below G t := fun t k => pre0 t (st1 t k)
  have K3 : ∀ t, Steps p.tables e below (T1.setTop (mkF m 37 #[.val (.ref a1), .val (.int (3 : Int32))] [(.int (2 : Int32)), (.ref a1)])) t → Steps p.tables e below G t := by
    intro t k
    refine K2 t ?_
    refine XS.ifYes X1.here hx rfl (pc0 := 3) (pc' := 28) rfl (hb hby d13_3) rfl ((if0 _ _).trans (feq (by decide)).2) (by decide) (by decide) ?_
    refine XS.iloadN X1.here hx rfl (hb hby d13_28) rfl ?_
    refine XS.iconst X1.here hx rfl (hb hby d13_29) ?_
    refine XS.ishl X1.here hx rfl (hb hby d13_30) rfl ?_
    refine XS.istoreN X1.here hx rfl (hb hby d13_31) rfl (l' := #[.val (.ref a1), .val (.int (2 : Int32))]) rfl ?_
    refine XS.aloadN X1.here hx rfl (hb hby d13_32) rfl rfl ?_
    refine XS.iloadN X1.here hx rfl (hb hby d13_33) rfl ?_
    refine XS.iinc X1.here hx rfl (hb hby d13_34) rfl (l' := #[.val (.ref a1), .val (.int (3 : Int32))]) rfl ?_
    exact k
  obtain ⟨cl4, Ar4, qc4, S4, M4, Ha4, Ga4⟩ := id V1
  have hin4 : ¬ ((2 : Int32) < 0 ∨ cl4.slots.size ≤ ((2 : Int32)).toNatClampNeg) := inb_of S4 ⟨by decide, by decide⟩
  have hat4 : cl4.slots[((2 : Int32)).toNatClampNeg]? = some (.int c2) := Ha4.at hin4 rfl
  have K5 : ∀ t, Steps p.tables e below (T1.setTop (mkF m 38 #[.val (.ref a1), .val (.int (3 : Int32))] [(.int c2)])) t → Steps p.tables e below G t := fun t k => K3 t (X1.baloadBytes hx (j := (2 : Int32)) (v := (.int c2)) (by rw [e1]; exact Ar4.1) (State.isArrayOf_alike hZ.alike Ar4.2.1) Ar4.2.2 hin4 hat4 (g := (mkF m 37 #[.val (.ref a1), .val (.int (3 : Int32))] [(.int (2 : Int32)), (.ref a1)])) rfl rfl (hb hby d13_37) _ k)
  have K6 : ∀ t, Steps p.tables e below (T1.setTop (mkF m 42 #[.val (.ref a1), .val (.int (3 : Int32))] [(.int (c2 &&& (255 : Int32)))])) t → Steps p.tables e below G t := by
    intro t k
    refine K5 t ?_
    refine XS.sipush X1.here hx rfl (hb hby d13_38) ?_
    refine XS.iand X1.here hx rfl (hb hby d13_41) rfl ?_
    exact k
  obtain ⟨T7, X7, e7, st7⟩ := getS2 X1 hx hZ hown (host := "") (Or.inl (hw _ (List.mem_of_getElem? (i := 56) rfl))) Via.refl e1 (Sta.ext O0.2 SH) (g := (mkF m 42 #[.val (.ref a1), .val (.int (3 : Int32))] [(.int (c2 &&& (255 : Int32)))])) rfl (hb hby d13_42)
  have K8 : ∀ t, Steps p.tables e below (T7.setTop (mkF m 45 #[.val (.ref a1), .val (.int (3 : Int32))] [(.int (0 : Int32)), (.int (c2 &&& (255 : Int32)))])) t → Steps p.tables e below G t := fun t k => K6 t (st7 t k)
  have K9 : ∀ t, Steps p.tables e below (T7.setTop (mkF m 48 #[.val (.ref a1), .val (.int (3 : Int32))] [(.int (3 : Int32)), (.ref a1), (.int ((c2 &&& (255 : Int32)) <<< ((0 : Int32) &&& 31)))])) t → Steps p.tables e below G t := by
    intro t k
    refine K8 t ?_
    refine XS.ishl X7.here hx rfl (hb hby d13_45) rfl ?_
    refine XS.aloadN X7.here hx rfl (hb hby d13_46) rfl rfl ?_
    refine XS.iloadN X7.here hx rfl (hb hby d13_47) rfl ?_
    exact k
  obtain ⟨cl10, Ar10, qc10, S10, M10, Ha10, Ga10⟩ := id V1
  have hin10 : ¬ ((3 : Int32) < 0 ∨ cl10.slots.size ≤ ((3 : Int32)).toNatClampNeg) := inb_of S10 ⟨by decide, by decide⟩
  have hat10 : cl10.slots[((3 : Int32)).toNatClampNeg]? = some (.int c3) := Ha10.at hin10 rfl
  have K11 : ∀ t, Steps p.tables e below (T7.setTop (mkF m 49 #[.val (.ref a1), .val (.int (3 : Int32))] [(.int c3), (.int ((c2 &&& (255 : Int32)) <<< ((0 : Int32) &&& 31)))])) t → Steps p.tables e below G t := fun t k => K9 t (X7.baloadBytes hx (j := (3 : Int32)) (v := (.int c3)) (by rw [e7]; exact Ar10.1) (State.isArrayOf_alike hZ.alike Ar10.2.1) Ar10.2.2 hin10 hat10 (g := (mkF m 48 #[.val (.ref a1), .val (.int (3 : Int32))] [(.int (3 : Int32)), (.ref a1), (.int ((c2 &&& (255 : Int32)) <<< ((0 : Int32) &&& 31)))])) rfl rfl (hb hby d13_48) _ k)
  have K12 : ∀ t, Steps p.tables e below (T7.setTop (mkF m 53 #[.val (.ref a1), .val (.int (3 : Int32))] [(.int (c3 &&& (255 : Int32))), (.int ((c2 &&& (255 : Int32)) <<< ((0 : Int32) &&& 31)))])) t → Steps p.tables e below G t := by
    intro t k
    refine K11 t ?_
    refine XS.sipush X7.here hx rfl (hb hby d13_49) ?_
    refine XS.iand X7.here hx rfl (hb hby d13_52) rfl ?_
    exact k
  obtain ⟨T13, X13, e13, st13⟩ := getS2 X7 hx hZ hown (host := "") (Or.inl (hw _ (List.mem_of_getElem? (i := 57) rfl))) Via.refl e7 (Sta.ext O0.2 SL) (g := (mkF m 53 #[.val (.ref a1), .val (.int (3 : Int32))] [(.int (c3 &&& (255 : Int32))), (.int ((c2 &&& (255 : Int32)) <<< ((0 : Int32) &&& 31)))])) rfl (hb hby d13_53)
  have K14 : ∀ t, Steps p.tables e below (T13.setTop (mkF m 56 #[.val (.ref a1), .val (.int (3 : Int32))] [(.int (8 : Int32)), (.int (c3 &&& (255 : Int32))), (.int ((c2 &&& (255 : Int32)) <<< ((0 : Int32) &&& 31)))])) t → Steps p.tables e below G t := fun t k => K12 t (st13 t k)
  obtain ⟨fs, hr, hrun, hended, hW, hsame⟩ := X13.leave (v := some (.int (nar .char ((((c2 &&& (255 : Int32)) <<< ((0 : Int32) &&& 31)) ||| ((c3 &&& (255 : Int32)) <<< ((8 : Int32) &&& 31))).toUInt32.toUInt16.toUInt32.toInt32)))) (fun h => by rw [Bd.returns] at h; cases h)
  have KF := K14
  rw [hG] at KF
  refine ⟨_, _, KF _ ?_, hrun, hended, _, _, rfl, ?_, ⟨_, rfl⟩, hW, hsame.mono (by decide) (by decide)⟩
  · refine XS.ishl X13.here hx rfl (hb hby d13_56) rfl ?_
    refine XS.ior X13.here hx rfl (hb hby d13_57) rfl ?_
    refine XS.i2c X13.here hx rfl (hb hby d13_58) rfl ?_
    show Steps p.tables e below (T13.setTop (mkF m 59 #[.val (.ref a1), .val (.int (3 : Int32))] [(.int ((((c2 &&& (255 : Int32)) <<< ((0 : Int32) &&& 31)) ||| ((c3 &&& (255 : Int32)) <<< ((8 : Int32) &&& 31))).toUInt32.toUInt16.toUInt32.toInt32))])) _
    exact retN X13 hx (t := .char) Bd.returns (by simp) (hb hby d13_59) hr
  · show Q13_1 a1 k1 c0 c1 c2 c3 c4 c5 c6 c7 cs fv h0 n0 _ T13.heap _
    rw [e13]
    exact ⟨rfl, N0, rfl⟩
def Q12_1 (Z : State) (a1 : Addr) (k1 : ClassId) (c0 c1 c2 c3 c4 c5 c6 c7 : Int32) (p3 : Int32) (h0 : Heap) (n0 : Nat) (v : Option Value) (h : Heap) (L : List Loc) : Prop := v = none ∧ Fr n0 L ∧ Keep h0 h [a1] ∧ Arv Z h a1 k1 .byte (8 : Int32) [(.int c0), (.int c1), (.int (own_b0 p3)), (.int (own_b1 p3)), (.int c4), (.int c5), (.int c6), (.int c7)] (Value.int (0 : Int32))
theorem ef_rm12_1 (m : MethodId) (x0 : Addr) (x2 : Int32) : entryFrame m #[(.ref x0), (.int (1 : Int32)), (.int x2)] 3 = mkF m 0 #[.val (.ref x0), .val (.int (1 : Int32)), .val (.int x2)] [] := by first | (simp [entryFrame, mkF, argsToLocals, Value.category]; done) | rfl
set_option maxRecDepth 65536 in
set_option maxHeartbeats 40000000 in
theorem rm12_1 (l : Launch) (Z : State) (a0 : Array Value) (hw : ∀ d ∈ tables_1, d.before a0 Z = true) (ws : List Jvm.Cond) (a1 : Addr) (k1 : ClassId) (c0 c1 c2 c3 c4 c5 c6 c7 : Int32) (p3 : Int32) (cs : Int32) (fv : Value) (h0 : Heap) (n0 : Nat) (Z0 : n0 ≤ h0.size) (V1 : Arv Z h0 a1 k1 .byte (8 : Int32) [(.int c0), (.int c1), (.int c2), (.int c3), (.int c4), (.int c5), (.int c6), (.int c7)] (Value.int (0 : Int32))) (g1 : n0 ≤ a1) (SC : Sta Z Z.heap "java/lang/String" "COMPACT_STRINGS" "Z" (.int cs)) (hcs : ¬ cs = 0) (SA : Sta Z Z.heap "java/lang/StringUTF16" "$assertionsDisabled" "Z" (.int (1 : Int32))) (SH : Sta Z Z.heap "java/lang/StringUTF16" "HI_BYTE_SHIFT" "I" (.int (0 : Int32))) (SL : Sta Z Z.heap "java/lang/StringUTF16" "LO_BYTE_SHIFT" "I" (.int (8 : Int32))) (SF : Sta Z Z.heap "jdk/internal/util/Preconditions" "SIOOBE_FORMATTER" "Ljava/util/function/BiFunction;" fv) (hfv : fv = .null ∨ ∃ a, fv = .ref a) (O0 : Old Z n0 h0) :
    MetFree l (⟨"java/lang/StringUTF16", "putChar", "([BII)V"⟩ : MethodName) (head1 (Jvm.Cond.code (⟨"java/lang/StringUTF16", "putChar", "([BII)V"⟩ : MethodName) jdk_52_method_4_code 3 none :: ws) ({ frames := 0, cells := 0, slots := 0, locals := 0 } : Room)) (fun a U => a = #[(.ref a1), (.int (1 : Int32)), (.int p3)] ∧ Z.Warmed39 U.vm ∧ U.heap = h0) (fun _ _ _ _ _ => True) (fun _ U o U' => ∃ v L, o = .returned v ∧ Q12_1 Z a1 k1 c0 c1 c2 c3 c4 c5 c6 c7 p3 h0 n0 v U'.heap L ∧ FrameEnd U o U' L ({ frames := 0, cells := 0, slots := 0, locals := 0 } : Room).cells ({ frames := 0, cells := 0, slots := 0, locals := 0 } : Room).slots) := by
  refine MetFree.of_bodySF (plainFor_of_name pn_java_lang_StringUTF16) hisR ?_
  intro p e s m args below meth c s₁ Bd hml0 hP hK
  obtain ⟨rfl, hZ, hh⟩ := hP
  have hx := Bd.exec
  have hby := Bd.bytes
  have hml : c.maxLocals = 3 := hml0
  have hown : s.vm.findClass "java/lang/StringUTF16" = some m.cls := findClass_of_methodNamed Bd.named
  have hnm := (name_of_methodNamed Bd.named Bd.method).1
  have X0 : Stand p l e ({ frames := 0, cells := 0, slots := 0, locals := 0 } : Room) s m #[(.ref a1), (.int (1 : Int32)), (.int p3)] below meth c s₁ [] 0 0 := Stand.of_body Bd
  have e0 : s₁.heap = h0 := by rw [← hh, Bd.state]; rfl
  have N0 := Fr.nil n0
  have KP0 : Keep h0 h0 [a1] := Keep.refl h0 _
  obtain ⟨G, hG⟩ : ∃ G : State, G = s₁.setTop (entryFrame m #[(.ref a1), (.int (1 : Int32)), (.int p3)] 3) := ⟨_, rfl⟩
  have pre0 : ∀ t, Steps p.tables e below (s₁.setTop (mkF m 0 #[.val (.ref a1), .val (.int (1 : Int32)), .val (.int p3)] [])) t → Steps p.tables e below G t := fun t k => hG ▸ castTop (ef_rm12_1 m a1 p3) k
  obtain ⟨T1, X1, e1, st1⟩ := getS2 X0 hx hZ hown (host := "") (Or.inl (hw _ (List.mem_of_getElem? (i := 55) rfl))) Via.refl e0 (Sta.ext O0.2 SA) (g := (mkF m 0 #[.val (.ref a1), .val (.int (1 : Int32)), .val (.int p3)] [])) rfl (hb hby d12_0)
  have K2 : ∀ t, Steps p.tables e below (T1.setTop (mkF m 3 #[.val (.ref a1), .val (.int (1 : Int32)), .val (.int p3)] [(.int (1 : Int32))])) t → Steps p.tables e below G t := fun t k => pre0 t (st1 t k)
  have K3 : ∀ t, Steps p.tables e below (T1.setTop (mkF m 38 #[.val (.ref a1), .val (.int (3 : Int32)), .val (.int p3)] [(.int p3), (.int (2 : Int32)), (.ref a1)])) t → Steps p.tables e below G t := by
    intro t k
    refine K2 t ?_
    refine XS.ifYes X1.here hx rfl (pc0 := 3) (pc' := 28) rfl (hb hby d12_3) rfl ((if0 _ _).trans (feq (by decide)).2) (by decide) (by decide) ?_
    refine XS.iloadN X1.here hx rfl (hb hby d12_28) rfl ?_
    refine XS.iconst X1.here hx rfl (hb hby d12_29) ?_
    refine XS.ishl X1.here hx rfl (hb hby d12_30) rfl ?_
    refine XS.istoreN X1.here hx rfl (hb hby d12_31) rfl (l' := #[.val (.ref a1), .val (.int (2 : Int32)), .val (.int p3)]) rfl ?_
    refine XS.aloadN X1.here hx rfl (hb hby d12_32) rfl rfl ?_
    refine XS.iloadN X1.here hx rfl (hb hby d12_33) rfl ?_
    refine XS.iinc X1.here hx rfl (hb hby d12_34) rfl (l' := #[.val (.ref a1), .val (.int (3 : Int32)), .val (.int p3)]) rfl ?_
    refine XS.iloadN X1.here hx rfl (hb hby d12_37) rfl ?_
    exact k
  obtain ⟨T4, X4, e4, st4⟩ := getS2 X1 hx hZ hown (host := "") (Or.inl (hw _ (List.mem_of_getElem? (i := 56) rfl))) Via.refl e1 (Sta.ext O0.2 SH) (g := (mkF m 38 #[.val (.ref a1), .val (.int (3 : Int32)), .val (.int p3)] [(.int p3), (.int (2 : Int32)), (.ref a1)])) rfl (hb hby d12_38)
  have K5 : ∀ t, Steps p.tables e below (T4.setTop (mkF m 41 #[.val (.ref a1), .val (.int (3 : Int32)), .val (.int p3)] [(.int (0 : Int32)), (.int p3), (.int (2 : Int32)), (.ref a1)])) t → Steps p.tables e below G t := fun t k => K3 t (st4 t k)
  have K6 : ∀ t, Steps p.tables e below (T4.setTop (mkF m 43 #[.val (.ref a1), .val (.int (3 : Int32)), .val (.int p3)] [(.int ((p3 >>> ((0 : Int32) &&& 31)).toInt8.toInt32)), (.int (2 : Int32)), (.ref a1)])) t → Steps p.tables e below G t := by
    intro t k
    refine K5 t ?_
    refine XS.ishr X4.here hx rfl (hb hby d12_41) rfl ?_
    refine XS.i2b X4.here hx rfl (hb hby d12_42) rfl ?_
    exact k
  obtain ⟨cl7, Ar7, qc7, S7, M7, Ha7, Ga7⟩ := id V1
  have hin7 : ¬ ((2 : Int32) < 0 ∨ cl7.slots.size ≤ ((2 : Int32)).toNatClampNeg) := inb_of S7 ⟨by decide, by decide⟩
  obtain ⟨T7, h7, X7, e7, W7, st7⟩ := stB X4 hx hZ e4 Ar7 (j := (2 : Int32)) hin7 (g := (mkF m 43 #[.val (.ref a1), .val (.int (3 : Int32)), .val (.int p3)] [(.int ((p3 >>> ((0 : Int32) &&& 31)).toInt8.toInt32)), (.int (2 : Int32)), (.ref a1)])) rfl rfl (hb hby d12_43)
  have V7 : Arv Z h7 a1 k1 .byte (8 : Int32) [(.int c0), (.int c1), (.int (((p3 >>> ((0 : Int32) &&& 31)).toInt8.toInt32).toInt8.toInt32)), (.int c3), (.int c4), (.int c5), (.int c6), (.int c7)] (Value.int (0 : Int32)) := Arv.set Ar7 qc7 S7 M7 Ha7 Ga7 (fits_nar_byte _) W7 2 rfl (Nat.le_of_ble_eq_true rfl)
  have K8 : ∀ t, Steps p.tables e below (T7.setTop (mkF m 44 #[.val (.ref a1), .val (.int (3 : Int32)), .val (.int p3)] [])) t → Steps p.tables e below G t := fun t k => K6 t (st7 t k)
  have f9 := O0.wr W7 g1
  have Z10 : n0 ≤ h7.size := Nat.le_trans Z0 (Keep.of_wr W7).1
  have KP11 : Keep h0 h7 [a1] := KP0.wr W7 (Or.inl (List.mem_of_getElem? (i := 0) rfl))
  have N12 := Fr.snoc X7 N0 g1
  have K13 : ∀ t, Steps p.tables e below (T7.setTop (mkF m 47 #[.val (.ref a1), .val (.int (3 : Int32)), .val (.int p3)] [(.int p3), (.int (3 : Int32)), (.ref a1)])) t → Steps p.tables e below G t := by
    intro t k
    refine K8 t ?_
    refine XS.aloadN X7.here hx rfl (hb hby d12_44) rfl rfl ?_
    refine XS.iloadN X7.here hx rfl (hb hby d12_45) rfl ?_
    refine XS.iloadN X7.here hx rfl (hb hby d12_46) rfl ?_
    exact k
  obtain ⟨T14, X14, e14, st14⟩ := getS2 X7 hx hZ hown (host := "") (Or.inl (hw _ (List.mem_of_getElem? (i := 57) rfl))) Via.refl e7 (Sta.ext f9.2 SL) (g := (mkF m 47 #[.val (.ref a1), .val (.int (3 : Int32)), .val (.int p3)] [(.int p3), (.int (3 : Int32)), (.ref a1)])) rfl (hb hby d12_47)
  have K15 : ∀ t, Steps p.tables e below (T14.setTop (mkF m 50 #[.val (.ref a1), .val (.int (3 : Int32)), .val (.int p3)] [(.int (8 : Int32)), (.int p3), (.int (3 : Int32)), (.ref a1)])) t → Steps p.tables e below G t := fun t k => K13 t (st14 t k)
  have K16 : ∀ t, Steps p.tables e below (T14.setTop (mkF m 52 #[.val (.ref a1), .val (.int (3 : Int32)), .val (.int p3)] [(.int ((p3 >>> ((8 : Int32) &&& 31)).toInt8.toInt32)), (.int (3 : Int32)), (.ref a1)])) t → Steps p.tables e below G t := by
    intro t k
    refine K15 t ?_
    refine XS.ishr X14.here hx rfl (hb hby d12_50) rfl ?_
    refine XS.i2b X14.here hx rfl (hb hby d12_51) rfl ?_
    exact k
  obtain ⟨cl17, Ar17, qc17, S17, M17, Ha17, Ga17⟩ := id V7
  have hin17 : ¬ ((3 : Int32) < 0 ∨ cl17.slots.size ≤ ((3 : Int32)).toNatClampNeg) := inb_of S17 ⟨by decide, by decide⟩
  obtain ⟨T17, h17, X17, e17, W17, st17⟩ := stB X14 hx hZ e14 Ar17 (j := (3 : Int32)) hin17 (g := (mkF m 52 #[.val (.ref a1), .val (.int (3 : Int32)), .val (.int p3)] [(.int ((p3 >>> ((8 : Int32) &&& 31)).toInt8.toInt32)), (.int (3 : Int32)), (.ref a1)])) rfl rfl (hb hby d12_52)
  have V17 : Arv Z h17 a1 k1 .byte (8 : Int32) [(.int c0), (.int c1), (.int (((p3 >>> ((0 : Int32) &&& 31)).toInt8.toInt32).toInt8.toInt32)), (.int (((p3 >>> ((8 : Int32) &&& 31)).toInt8.toInt32).toInt8.toInt32)), (.int c4), (.int c5), (.int c6), (.int c7)] (Value.int (0 : Int32)) := Arv.set Ar17 qc17 S17 M17 Ha17 Ga17 (fits_nar_byte _) W17 3 rfl (Nat.le_of_ble_eq_true rfl)
  have K18 : ∀ t, Steps p.tables e below (T17.setTop (mkF m 53 #[.val (.ref a1), .val (.int (3 : Int32)), .val (.int p3)] [])) t → Steps p.tables e below G t := fun t k => K16 t (st17 t k)
  have f19 := f9.wr W17 g1
  have Z20 : n0 ≤ h17.size := Nat.le_trans Z10 (Keep.of_wr W17).1
  have KP21 : Keep h0 h17 [a1] := KP11.wr W17 (Or.inl (List.mem_of_getElem? (i := 0) rfl))
  have N22 := Fr.snoc X17 N12 g1
  obtain ⟨fs, hr, hrun, hended, hW, hsame⟩ := X17.leave (v := none) (fun _ => rfl)
  have KF := K18
  rw [hG] at KF
  refine ⟨_, _, KF _ ?_, hrun, hended, _, _, rfl, ?_, ⟨_, rfl⟩, hW, hsame.mono (by decide) (by decide)⟩
  · show Steps p.tables e below (T17.setTop (mkF m 53 #[.val (.ref a1), .val (.int (3 : Int32)), .val (.int p3)] [])) _
    exact X17.returnOut hx Bd.returns (hb hby d12_53) hr
  · show Q12_1 Z a1 k1 c0 c1 c2 c3 c4 c5 c6 c7 p3 h0 n0 _ T17.heap _
    rw [e17]
    exact ⟨rfl, N22, KP21, V17⟩
def Q13_2 (a1 : Addr) (k1 : ClassId) (c0 c1 c2 c3 c4 c5 c6 c7 : Int32) (cs : Int32) (fv : Value) (h0 : Heap) (n0 : Nat) (v : Option Value) (h : Heap) (L : List Loc) : Prop := v = some (.int (own_g c4 c5)) ∧ Fr n0 L ∧ h = h0
theorem ef_rm13_2 (m : MethodId) (x0 : Addr) : entryFrame m #[(.ref x0), (.int (2 : Int32))] 2 = mkF m 0 #[.val (.ref x0), .val (.int (2 : Int32))] [] := by first | (simp [entryFrame, mkF, argsToLocals, Value.category]; done) | rfl
set_option maxRecDepth 65536 in
set_option maxHeartbeats 40000000 in
theorem rm13_2 (l : Launch) (Z : State) (a0 : Array Value) (hw : ∀ d ∈ tables_1, d.before a0 Z = true) (ws : List Jvm.Cond) (a1 : Addr) (k1 : ClassId) (c0 c1 c2 c3 c4 c5 c6 c7 : Int32) (cs : Int32) (fv : Value) (h0 : Heap) (n0 : Nat) (Z0 : n0 ≤ h0.size) (V1 : Arv Z h0 a1 k1 .byte (8 : Int32) [(.int c0), (.int c1), (.int c2), (.int c3), (.int c4), (.int c5), (.int c6), (.int c7)] (Value.int (0 : Int32))) (SC : Sta Z Z.heap "java/lang/String" "COMPACT_STRINGS" "Z" (.int cs)) (hcs : ¬ cs = 0) (SA : Sta Z Z.heap "java/lang/StringUTF16" "$assertionsDisabled" "Z" (.int (1 : Int32))) (SH : Sta Z Z.heap "java/lang/StringUTF16" "HI_BYTE_SHIFT" "I" (.int (0 : Int32))) (SL : Sta Z Z.heap "java/lang/StringUTF16" "LO_BYTE_SHIFT" "I" (.int (8 : Int32))) (SF : Sta Z Z.heap "jdk/internal/util/Preconditions" "SIOOBE_FORMATTER" "Ljava/util/function/BiFunction;" fv) (hfv : fv = .null ∨ ∃ a, fv = .ref a) (O0 : Old Z n0 h0) :
    MetFree l (⟨"java/lang/StringUTF16", "getChar", "([BI)C"⟩ : MethodName) (head1 (Jvm.Cond.code (⟨"java/lang/StringUTF16", "getChar", "([BI)C"⟩ : MethodName) jdk_52_method_5_code 2 (some .char) :: ws) ({ frames := 0, cells := 0, slots := 0, locals := 0 } : Room)) (fun a U => a = #[(.ref a1), (.int (2 : Int32))] ∧ Z.Warmed39 U.vm ∧ U.heap = h0) (fun _ _ _ _ _ => True) (fun _ U o U' => ∃ v L, o = .returned v ∧ Q13_2 a1 k1 c0 c1 c2 c3 c4 c5 c6 c7 cs fv h0 n0 v U'.heap L ∧ FrameEnd U o U' L ({ frames := 0, cells := 0, slots := 0, locals := 0 } : Room).cells ({ frames := 0, cells := 0, slots := 0, locals := 0 } : Room).slots) := by
  refine MetFree.of_bodySF (plainFor_of_name pn_java_lang_StringUTF16) hisR ?_
  intro p e s m args below meth c s₁ Bd hml0 hP hK
  obtain ⟨rfl, hZ, hh⟩ := hP
  have hx := Bd.exec
  have hby := Bd.bytes
  have hml : c.maxLocals = 2 := hml0
  have hown : s.vm.findClass "java/lang/StringUTF16" = some m.cls := findClass_of_methodNamed Bd.named
  have hnm := (name_of_methodNamed Bd.named Bd.method).1
  have X0 : Stand p l e ({ frames := 0, cells := 0, slots := 0, locals := 0 } : Room) s m #[(.ref a1), (.int (2 : Int32))] below meth c s₁ [] 0 0 := Stand.of_body Bd
  have e0 : s₁.heap = h0 := by rw [← hh, Bd.state]; rfl
  have N0 := Fr.nil n0
  have KP0 : Keep h0 h0 [] := Keep.refl h0 _
  obtain ⟨G, hG⟩ : ∃ G : State, G = s₁.setTop (entryFrame m #[(.ref a1), (.int (2 : Int32))] 2) := ⟨_, rfl⟩
  have pre0 : ∀ t, Steps p.tables e below (s₁.setTop (mkF m 0 #[.val (.ref a1), .val (.int (2 : Int32))] [])) t → Steps p.tables e below G t := fun t k => hG ▸ castTop (ef_rm13_2 m a1) k
  obtain ⟨T1, X1, e1, st1⟩ := getS2 X0 hx hZ hown (host := "") (Or.inl (hw _ (List.mem_of_getElem? (i := 55) rfl))) Via.refl e0 (Sta.ext O0.2 SA) (g := (mkF m 0 #[.val (.ref a1), .val (.int (2 : Int32))] [])) rfl (hb hby d13_0)
  have K2 : ∀ t, Steps p.tables e below (T1.setTop (mkF m 3 #[.val (.ref a1), .val (.int (2 : Int32))] [(.int (1 : Int32))])) t → Steps p.tables e below G t := fun t k => pre0 t (st1 t k)
  have K3 : ∀ t, Steps p.tables e below (T1.setTop (mkF m 37 #[.val (.ref a1), .val (.int (5 : Int32))] [(.int (4 : Int32)), (.ref a1)])) t → Steps p.tables e below G t := by
    intro t k
    refine K2 t ?_
    refine XS.ifYes X1.here hx rfl (pc0 := 3) (pc' := 28) rfl (hb hby d13_3) rfl ((if0 _ _).trans (feq (by decide)).2) (by decide) (by decide) ?_
    refine XS.iloadN X1.here hx rfl (hb hby d13_28) rfl ?_
    refine XS.iconst X1.here hx rfl (hb hby d13_29) ?_
    refine XS.ishl X1.here hx rfl (hb hby d13_30) rfl ?_
    refine XS.istoreN X1.here hx rfl (hb hby d13_31) rfl (l' := #[.val (.ref a1), .val (.int (4 : Int32))]) rfl ?_
    refine XS.aloadN X1.here hx rfl (hb hby d13_32) rfl rfl ?_
    refine XS.iloadN X1.here hx rfl (hb hby d13_33) rfl ?_
    refine XS.iinc X1.here hx rfl (hb hby d13_34) rfl (l' := #[.val (.ref a1), .val (.int (5 : Int32))]) rfl ?_
    exact k
  obtain ⟨cl4, Ar4, qc4, S4, M4, Ha4, Ga4⟩ := id V1
  have hin4 : ¬ ((4 : Int32) < 0 ∨ cl4.slots.size ≤ ((4 : Int32)).toNatClampNeg) := inb_of S4 ⟨by decide, by decide⟩
  have hat4 : cl4.slots[((4 : Int32)).toNatClampNeg]? = some (.int c4) := Ha4.at hin4 rfl
  have K5 : ∀ t, Steps p.tables e below (T1.setTop (mkF m 38 #[.val (.ref a1), .val (.int (5 : Int32))] [(.int c4)])) t → Steps p.tables e below G t := fun t k => K3 t (X1.baloadBytes hx (j := (4 : Int32)) (v := (.int c4)) (by rw [e1]; exact Ar4.1) (State.isArrayOf_alike hZ.alike Ar4.2.1) Ar4.2.2 hin4 hat4 (g := (mkF m 37 #[.val (.ref a1), .val (.int (5 : Int32))] [(.int (4 : Int32)), (.ref a1)])) rfl rfl (hb hby d13_37) _ k)
  have K6 : ∀ t, Steps p.tables e below (T1.setTop (mkF m 42 #[.val (.ref a1), .val (.int (5 : Int32))] [(.int (c4 &&& (255 : Int32)))])) t → Steps p.tables e below G t := by
    intro t k
    refine K5 t ?_
    refine XS.sipush X1.here hx rfl (hb hby d13_38) ?_
    refine XS.iand X1.here hx rfl (hb hby d13_41) rfl ?_
    exact k
  obtain ⟨T7, X7, e7, st7⟩ := getS2 X1 hx hZ hown (host := "") (Or.inl (hw _ (List.mem_of_getElem? (i := 56) rfl))) Via.refl e1 (Sta.ext O0.2 SH) (g := (mkF m 42 #[.val (.ref a1), .val (.int (5 : Int32))] [(.int (c4 &&& (255 : Int32)))])) rfl (hb hby d13_42)
  have K8 : ∀ t, Steps p.tables e below (T7.setTop (mkF m 45 #[.val (.ref a1), .val (.int (5 : Int32))] [(.int (0 : Int32)), (.int (c4 &&& (255 : Int32)))])) t → Steps p.tables e below G t := fun t k => K6 t (st7 t k)
  have K9 : ∀ t, Steps p.tables e below (T7.setTop (mkF m 48 #[.val (.ref a1), .val (.int (5 : Int32))] [(.int (5 : Int32)), (.ref a1), (.int ((c4 &&& (255 : Int32)) <<< ((0 : Int32) &&& 31)))])) t → Steps p.tables e below G t := by
    intro t k
    refine K8 t ?_
    refine XS.ishl X7.here hx rfl (hb hby d13_45) rfl ?_
    refine XS.aloadN X7.here hx rfl (hb hby d13_46) rfl rfl ?_
    refine XS.iloadN X7.here hx rfl (hb hby d13_47) rfl ?_
    exact k
  obtain ⟨cl10, Ar10, qc10, S10, M10, Ha10, Ga10⟩ := id V1
  have hin10 : ¬ ((5 : Int32) < 0 ∨ cl10.slots.size ≤ ((5 : Int32)).toNatClampNeg) := inb_of S10 ⟨by decide, by decide⟩
  have hat10 : cl10.slots[((5 : Int32)).toNatClampNeg]? = some (.int c5) := Ha10.at hin10 rfl
  have K11 : ∀ t, Steps p.tables e below (T7.setTop (mkF m 49 #[.val (.ref a1), .val (.int (5 : Int32))] [(.int c5), (.int ((c4 &&& (255 : Int32)) <<< ((0 : Int32) &&& 31)))])) t → Steps p.tables e below G t := fun t k => K9 t (X7.baloadBytes hx (j := (5 : Int32)) (v := (.int c5)) (by rw [e7]; exact Ar10.1) (State.isArrayOf_alike hZ.alike Ar10.2.1) Ar10.2.2 hin10 hat10 (g := (mkF m 48 #[.val (.ref a1), .val (.int (5 : Int32))] [(.int (5 : Int32)), (.ref a1), (.int ((c4 &&& (255 : Int32)) <<< ((0 : Int32) &&& 31)))])) rfl rfl (hb hby d13_48) _ k)
  have K12 : ∀ t, Steps p.tables e below (T7.setTop (mkF m 53 #[.val (.ref a1), .val (.int (5 : Int32))] [(.int (c5 &&& (255 : Int32))), (.int ((c4 &&& (255 : Int32)) <<< ((0 : Int32) &&& 31)))])) t → Steps p.tables e below G t := by
    intro t k
    refine K11 t ?_
    refine XS.sipush X7.here hx rfl (hb hby d13_49) ?_
    refine XS.iand X7.here hx rfl (hb hby d13_52) rfl ?_
    exact k
  obtain ⟨T13, X13, e13, st13⟩ := getS2 X7 hx hZ hown (host := "") (Or.inl (hw _ (List.mem_of_getElem? (i := 57) rfl))) Via.refl e7 (Sta.ext O0.2 SL) (g := (mkF m 53 #[.val (.ref a1), .val (.int (5 : Int32))] [(.int (c5 &&& (255 : Int32))), (.int ((c4 &&& (255 : Int32)) <<< ((0 : Int32) &&& 31)))])) rfl (hb hby d13_53)
  have K14 : ∀ t, Steps p.tables e below (T13.setTop (mkF m 56 #[.val (.ref a1), .val (.int (5 : Int32))] [(.int (8 : Int32)), (.int (c5 &&& (255 : Int32))), (.int ((c4 &&& (255 : Int32)) <<< ((0 : Int32) &&& 31)))])) t → Steps p.tables e below G t := fun t k => K12 t (st13 t k)
  obtain ⟨fs, hr, hrun, hended, hW, hsame⟩ := X13.leave (v := some (.int (nar .char ((((c4 &&& (255 : Int32)) <<< ((0 : Int32) &&& 31)) ||| ((c5 &&& (255 : Int32)) <<< ((8 : Int32) &&& 31))).toUInt32.toUInt16.toUInt32.toInt32)))) (fun h => by rw [Bd.returns] at h; cases h)
  have KF := K14
  rw [hG] at KF
  refine ⟨_, _, KF _ ?_, hrun, hended, _, _, rfl, ?_, ⟨_, rfl⟩, hW, hsame.mono (by decide) (by decide)⟩
  · refine XS.ishl X13.here hx rfl (hb hby d13_56) rfl ?_
    refine XS.ior X13.here hx rfl (hb hby d13_57) rfl ?_
    refine XS.i2c X13.here hx rfl (hb hby d13_58) rfl ?_
    show Steps p.tables e below (T13.setTop (mkF m 59 #[.val (.ref a1), .val (.int (5 : Int32))] [(.int ((((c4 &&& (255 : Int32)) <<< ((0 : Int32) &&& 31)) ||| ((c5 &&& (255 : Int32)) <<< ((8 : Int32) &&& 31))).toUInt32.toUInt16.toUInt32.toInt32))])) _
    exact retN X13 hx (t := .char) Bd.returns (by simp) (hb hby d13_59) hr
  · show Q13_2 a1 k1 c0 c1 c2 c3 c4 c5 c6 c7 cs fv h0 n0 _ T13.heap _
    rw [e13]
    exact ⟨rfl, N0, rfl⟩
def Q12_2 (Z : State) (a1 : Addr) (k1 : ClassId) (c0 c1 c2 c3 c4 c5 c6 c7 : Int32) (p3 : Int32) (h0 : Heap) (n0 : Nat) (v : Option Value) (h : Heap) (L : List Loc) : Prop := v = none ∧ Fr n0 L ∧ Keep h0 h [a1] ∧ Arv Z h a1 k1 .byte (8 : Int32) [(.int c0), (.int c1), (.int c2), (.int c3), (.int (own_b0 p3)), (.int (own_b1 p3)), (.int c6), (.int c7)] (Value.int (0 : Int32))
theorem ef_rm12_2 (m : MethodId) (x0 : Addr) (x2 : Int32) : entryFrame m #[(.ref x0), (.int (2 : Int32)), (.int x2)] 3 = mkF m 0 #[.val (.ref x0), .val (.int (2 : Int32)), .val (.int x2)] [] := by first | (simp [entryFrame, mkF, argsToLocals, Value.category]; done) | rfl
set_option maxRecDepth 65536 in
set_option maxHeartbeats 40000000 in
theorem rm12_2 (l : Launch) (Z : State) (a0 : Array Value) (hw : ∀ d ∈ tables_1, d.before a0 Z = true) (ws : List Jvm.Cond) (a1 : Addr) (k1 : ClassId) (c0 c1 c2 c3 c4 c5 c6 c7 : Int32) (p3 : Int32) (cs : Int32) (fv : Value) (h0 : Heap) (n0 : Nat) (Z0 : n0 ≤ h0.size) (V1 : Arv Z h0 a1 k1 .byte (8 : Int32) [(.int c0), (.int c1), (.int c2), (.int c3), (.int c4), (.int c5), (.int c6), (.int c7)] (Value.int (0 : Int32))) (g1 : n0 ≤ a1) (SC : Sta Z Z.heap "java/lang/String" "COMPACT_STRINGS" "Z" (.int cs)) (hcs : ¬ cs = 0) (SA : Sta Z Z.heap "java/lang/StringUTF16" "$assertionsDisabled" "Z" (.int (1 : Int32))) (SH : Sta Z Z.heap "java/lang/StringUTF16" "HI_BYTE_SHIFT" "I" (.int (0 : Int32))) (SL : Sta Z Z.heap "java/lang/StringUTF16" "LO_BYTE_SHIFT" "I" (.int (8 : Int32))) (SF : Sta Z Z.heap "jdk/internal/util/Preconditions" "SIOOBE_FORMATTER" "Ljava/util/function/BiFunction;" fv) (hfv : fv = .null ∨ ∃ a, fv = .ref a) (O0 : Old Z n0 h0) :
    MetFree l (⟨"java/lang/StringUTF16", "putChar", "([BII)V"⟩ : MethodName) (head1 (Jvm.Cond.code (⟨"java/lang/StringUTF16", "putChar", "([BII)V"⟩ : MethodName) jdk_52_method_4_code 3 none :: ws) ({ frames := 0, cells := 0, slots := 0, locals := 0 } : Room)) (fun a U => a = #[(.ref a1), (.int (2 : Int32)), (.int p3)] ∧ Z.Warmed39 U.vm ∧ U.heap = h0) (fun _ _ _ _ _ => True) (fun _ U o U' => ∃ v L, o = .returned v ∧ Q12_2 Z a1 k1 c0 c1 c2 c3 c4 c5 c6 c7 p3 h0 n0 v U'.heap L ∧ FrameEnd U o U' L ({ frames := 0, cells := 0, slots := 0, locals := 0 } : Room).cells ({ frames := 0, cells := 0, slots := 0, locals := 0 } : Room).slots) := by
  refine MetFree.of_bodySF (plainFor_of_name pn_java_lang_StringUTF16) hisR ?_
  intro p e s m args below meth c s₁ Bd hml0 hP hK
  obtain ⟨rfl, hZ, hh⟩ := hP
  have hx := Bd.exec
  have hby := Bd.bytes
  have hml : c.maxLocals = 3 := hml0
  have hown : s.vm.findClass "java/lang/StringUTF16" = some m.cls := findClass_of_methodNamed Bd.named
  have hnm := (name_of_methodNamed Bd.named Bd.method).1
  have X0 : Stand p l e ({ frames := 0, cells := 0, slots := 0, locals := 0 } : Room) s m #[(.ref a1), (.int (2 : Int32)), (.int p3)] below meth c s₁ [] 0 0 := Stand.of_body Bd
  have e0 : s₁.heap = h0 := by rw [← hh, Bd.state]; rfl
  have N0 := Fr.nil n0
  have KP0 : Keep h0 h0 [a1] := Keep.refl h0 _
  obtain ⟨G, hG⟩ : ∃ G : State, G = s₁.setTop (entryFrame m #[(.ref a1), (.int (2 : Int32)), (.int p3)] 3) := ⟨_, rfl⟩
  have pre0 : ∀ t, Steps p.tables e below (s₁.setTop (mkF m 0 #[.val (.ref a1), .val (.int (2 : Int32)), .val (.int p3)] [])) t → Steps p.tables e below G t := fun t k => hG ▸ castTop (ef_rm12_2 m a1 p3) k
  obtain ⟨T1, X1, e1, st1⟩ := getS2 X0 hx hZ hown (host := "") (Or.inl (hw _ (List.mem_of_getElem? (i := 55) rfl))) Via.refl e0 (Sta.ext O0.2 SA) (g := (mkF m 0 #[.val (.ref a1), .val (.int (2 : Int32)), .val (.int p3)] [])) rfl (hb hby d12_0)
  have K2 : ∀ t, Steps p.tables e below (T1.setTop (mkF m 3 #[.val (.ref a1), .val (.int (2 : Int32)), .val (.int p3)] [(.int (1 : Int32))])) t → Steps p.tables e below G t := fun t k => pre0 t (st1 t k)
  have K3 : ∀ t, Steps p.tables e below (T1.setTop (mkF m 38 #[.val (.ref a1), .val (.int (5 : Int32)), .val (.int p3)] [(.int p3), (.int (4 : Int32)), (.ref a1)])) t → Steps p.tables e below G t := by
    intro t k
    refine K2 t ?_
    refine XS.ifYes X1.here hx rfl (pc0 := 3) (pc' := 28) rfl (hb hby d12_3) rfl ((if0 _ _).trans (feq (by decide)).2) (by decide) (by decide) ?_
    refine XS.iloadN X1.here hx rfl (hb hby d12_28) rfl ?_
    refine XS.iconst X1.here hx rfl (hb hby d12_29) ?_
    refine XS.ishl X1.here hx rfl (hb hby d12_30) rfl ?_
    refine XS.istoreN X1.here hx rfl (hb hby d12_31) rfl (l' := #[.val (.ref a1), .val (.int (4 : Int32)), .val (.int p3)]) rfl ?_
    refine XS.aloadN X1.here hx rfl (hb hby d12_32) rfl rfl ?_
    refine XS.iloadN X1.here hx rfl (hb hby d12_33) rfl ?_
    refine XS.iinc X1.here hx rfl (hb hby d12_34) rfl (l' := #[.val (.ref a1), .val (.int (5 : Int32)), .val (.int p3)]) rfl ?_
    refine XS.iloadN X1.here hx rfl (hb hby d12_37) rfl ?_
    exact k
  obtain ⟨T4, X4, e4, st4⟩ := getS2 X1 hx hZ hown (host := "") (Or.inl (hw _ (List.mem_of_getElem? (i := 56) rfl))) Via.refl e1 (Sta.ext O0.2 SH) (g := (mkF m 38 #[.val (.ref a1), .val (.int (5 : Int32)), .val (.int p3)] [(.int p3), (.int (4 : Int32)), (.ref a1)])) rfl (hb hby d12_38)
  have K5 : ∀ t, Steps p.tables e below (T4.setTop (mkF m 41 #[.val (.ref a1), .val (.int (5 : Int32)), .val (.int p3)] [(.int (0 : Int32)), (.int p3), (.int (4 : Int32)), (.ref a1)])) t → Steps p.tables e below G t := fun t k => K3 t (st4 t k)
  have K6 : ∀ t, Steps p.tables e below (T4.setTop (mkF m 43 #[.val (.ref a1), .val (.int (5 : Int32)), .val (.int p3)] [(.int ((p3 >>> ((0 : Int32) &&& 31)).toInt8.toInt32)), (.int (4 : Int32)), (.ref a1)])) t → Steps p.tables e below G t := by
    intro t k
    refine K5 t ?_
    refine XS.ishr X4.here hx rfl (hb hby d12_41) rfl ?_
    refine XS.i2b X4.here hx rfl (hb hby d12_42) rfl ?_
    exact k
  obtain ⟨cl7, Ar7, qc7, S7, M7, Ha7, Ga7⟩ := id V1
  have hin7 : ¬ ((4 : Int32) < 0 ∨ cl7.slots.size ≤ ((4 : Int32)).toNatClampNeg) := inb_of S7 ⟨by decide, by decide⟩
  obtain ⟨T7, h7, X7, e7, W7, st7⟩ := stB X4 hx hZ e4 Ar7 (j := (4 : Int32)) hin7 (g := (mkF m 43 #[.val (.ref a1), .val (.int (5 : Int32)), .val (.int p3)] [(.int ((p3 >>> ((0 : Int32) &&& 31)).toInt8.toInt32)), (.int (4 : Int32)), (.ref a1)])) rfl rfl (hb hby d12_43)
  have V7 : Arv Z h7 a1 k1 .byte (8 : Int32) [(.int c0), (.int c1), (.int c2), (.int c3), (.int (((p3 >>> ((0 : Int32) &&& 31)).toInt8.toInt32).toInt8.toInt32)), (.int c5), (.int c6), (.int c7)] (Value.int (0 : Int32)) := Arv.set Ar7 qc7 S7 M7 Ha7 Ga7 (fits_nar_byte _) W7 4 rfl (Nat.le_of_ble_eq_true rfl)
  have K8 : ∀ t, Steps p.tables e below (T7.setTop (mkF m 44 #[.val (.ref a1), .val (.int (5 : Int32)), .val (.int p3)] [])) t → Steps p.tables e below G t := fun t k => K6 t (st7 t k)
  have f9 := O0.wr W7 g1
  have Z10 : n0 ≤ h7.size := Nat.le_trans Z0 (Keep.of_wr W7).1
  have KP11 : Keep h0 h7 [a1] := KP0.wr W7 (Or.inl (List.mem_of_getElem? (i := 0) rfl))
  have N12 := Fr.snoc X7 N0 g1
  have K13 : ∀ t, Steps p.tables e below (T7.setTop (mkF m 47 #[.val (.ref a1), .val (.int (5 : Int32)), .val (.int p3)] [(.int p3), (.int (5 : Int32)), (.ref a1)])) t → Steps p.tables e below G t := by
    intro t k
    refine K8 t ?_
    refine XS.aloadN X7.here hx rfl (hb hby d12_44) rfl rfl ?_
    refine XS.iloadN X7.here hx rfl (hb hby d12_45) rfl ?_
    refine XS.iloadN X7.here hx rfl (hb hby d12_46) rfl ?_
    exact k
  obtain ⟨T14, X14, e14, st14⟩ := getS2 X7 hx hZ hown (host := "") (Or.inl (hw _ (List.mem_of_getElem? (i := 57) rfl))) Via.refl e7 (Sta.ext f9.2 SL) (g := (mkF m 47 #[.val (.ref a1), .val (.int (5 : Int32)), .val (.int p3)] [(.int p3), (.int (5 : Int32)), (.ref a1)])) rfl (hb hby d12_47)
  have K15 : ∀ t, Steps p.tables e below (T14.setTop (mkF m 50 #[.val (.ref a1), .val (.int (5 : Int32)), .val (.int p3)] [(.int (8 : Int32)), (.int p3), (.int (5 : Int32)), (.ref a1)])) t → Steps p.tables e below G t := fun t k => K13 t (st14 t k)
  have K16 : ∀ t, Steps p.tables e below (T14.setTop (mkF m 52 #[.val (.ref a1), .val (.int (5 : Int32)), .val (.int p3)] [(.int ((p3 >>> ((8 : Int32) &&& 31)).toInt8.toInt32)), (.int (5 : Int32)), (.ref a1)])) t → Steps p.tables e below G t := by
    intro t k
    refine K15 t ?_
    refine XS.ishr X14.here hx rfl (hb hby d12_50) rfl ?_
    refine XS.i2b X14.here hx rfl (hb hby d12_51) rfl ?_
    exact k
  obtain ⟨cl17, Ar17, qc17, S17, M17, Ha17, Ga17⟩ := id V7
  have hin17 : ¬ ((5 : Int32) < 0 ∨ cl17.slots.size ≤ ((5 : Int32)).toNatClampNeg) := inb_of S17 ⟨by decide, by decide⟩
  obtain ⟨T17, h17, X17, e17, W17, st17⟩ := stB X14 hx hZ e14 Ar17 (j := (5 : Int32)) hin17 (g := (mkF m 52 #[.val (.ref a1), .val (.int (5 : Int32)), .val (.int p3)] [(.int ((p3 >>> ((8 : Int32) &&& 31)).toInt8.toInt32)), (.int (5 : Int32)), (.ref a1)])) rfl rfl (hb hby d12_52)
  have V17 : Arv Z h17 a1 k1 .byte (8 : Int32) [(.int c0), (.int c1), (.int c2), (.int c3), (.int (((p3 >>> ((0 : Int32) &&& 31)).toInt8.toInt32).toInt8.toInt32)), (.int (((p3 >>> ((8 : Int32) &&& 31)).toInt8.toInt32).toInt8.toInt32)), (.int c6), (.int c7)] (Value.int (0 : Int32)) := Arv.set Ar17 qc17 S17 M17 Ha17 Ga17 (fits_nar_byte _) W17 5 rfl (Nat.le_of_ble_eq_true rfl)
  have K18 : ∀ t, Steps p.tables e below (T17.setTop (mkF m 53 #[.val (.ref a1), .val (.int (5 : Int32)), .val (.int p3)] [])) t → Steps p.tables e below G t := fun t k => K16 t (st17 t k)
  have f19 := f9.wr W17 g1
  have Z20 : n0 ≤ h17.size := Nat.le_trans Z10 (Keep.of_wr W17).1
  have KP21 : Keep h0 h17 [a1] := KP11.wr W17 (Or.inl (List.mem_of_getElem? (i := 0) rfl))
  have N22 := Fr.snoc X17 N12 g1
  obtain ⟨fs, hr, hrun, hended, hW, hsame⟩ := X17.leave (v := none) (fun _ => rfl)
  have KF := K18
  rw [hG] at KF
  refine ⟨_, _, KF _ ?_, hrun, hended, _, _, rfl, ?_, ⟨_, rfl⟩, hW, hsame.mono (by decide) (by decide)⟩
  · show Steps p.tables e below (T17.setTop (mkF m 53 #[.val (.ref a1), .val (.int (5 : Int32)), .val (.int p3)] [])) _
    exact X17.returnOut hx Bd.returns (hb hby d12_53) hr
  · show Q12_2 Z a1 k1 c0 c1 c2 c3 c4 c5 c6 c7 p3 h0 n0 _ T17.heap _
    rw [e17]
    exact ⟨rfl, N22, KP21, V17⟩
def Q13_3 (a1 : Addr) (k1 : ClassId) (c0 c1 c2 c3 c4 c5 c6 c7 : Int32) (cs : Int32) (fv : Value) (h0 : Heap) (n0 : Nat) (v : Option Value) (h : Heap) (L : List Loc) : Prop := v = some (.int (own_g c6 c7)) ∧ Fr n0 L ∧ h = h0
theorem ef_rm13_3 (m : MethodId) (x0 : Addr) : entryFrame m #[(.ref x0), (.int (3 : Int32))] 2 = mkF m 0 #[.val (.ref x0), .val (.int (3 : Int32))] [] := by first | (simp [entryFrame, mkF, argsToLocals, Value.category]; done) | rfl
set_option maxRecDepth 65536 in
set_option maxHeartbeats 40000000 in
theorem rm13_3 (l : Launch) (Z : State) (a0 : Array Value) (hw : ∀ d ∈ tables_1, d.before a0 Z = true) (ws : List Jvm.Cond) (a1 : Addr) (k1 : ClassId) (c0 c1 c2 c3 c4 c5 c6 c7 : Int32) (cs : Int32) (fv : Value) (h0 : Heap) (n0 : Nat) (Z0 : n0 ≤ h0.size) (V1 : Arv Z h0 a1 k1 .byte (8 : Int32) [(.int c0), (.int c1), (.int c2), (.int c3), (.int c4), (.int c5), (.int c6), (.int c7)] (Value.int (0 : Int32))) (SC : Sta Z Z.heap "java/lang/String" "COMPACT_STRINGS" "Z" (.int cs)) (hcs : ¬ cs = 0) (SA : Sta Z Z.heap "java/lang/StringUTF16" "$assertionsDisabled" "Z" (.int (1 : Int32))) (SH : Sta Z Z.heap "java/lang/StringUTF16" "HI_BYTE_SHIFT" "I" (.int (0 : Int32))) (SL : Sta Z Z.heap "java/lang/StringUTF16" "LO_BYTE_SHIFT" "I" (.int (8 : Int32))) (SF : Sta Z Z.heap "jdk/internal/util/Preconditions" "SIOOBE_FORMATTER" "Ljava/util/function/BiFunction;" fv) (hfv : fv = .null ∨ ∃ a, fv = .ref a) (O0 : Old Z n0 h0) :
    MetFree l (⟨"java/lang/StringUTF16", "getChar", "([BI)C"⟩ : MethodName) (head1 (Jvm.Cond.code (⟨"java/lang/StringUTF16", "getChar", "([BI)C"⟩ : MethodName) jdk_52_method_5_code 2 (some .char) :: ws) ({ frames := 0, cells := 0, slots := 0, locals := 0 } : Room)) (fun a U => a = #[(.ref a1), (.int (3 : Int32))] ∧ Z.Warmed39 U.vm ∧ U.heap = h0) (fun _ _ _ _ _ => True) (fun _ U o U' => ∃ v L, o = .returned v ∧ Q13_3 a1 k1 c0 c1 c2 c3 c4 c5 c6 c7 cs fv h0 n0 v U'.heap L ∧ FrameEnd U o U' L ({ frames := 0, cells := 0, slots := 0, locals := 0 } : Room).cells ({ frames := 0, cells := 0, slots := 0, locals := 0 } : Room).slots) := by
  refine MetFree.of_bodySF (plainFor_of_name pn_java_lang_StringUTF16) hisR ?_
  intro p e s m args below meth c s₁ Bd hml0 hP hK
  obtain ⟨rfl, hZ, hh⟩ := hP
  have hx := Bd.exec
  have hby := Bd.bytes
  have hml : c.maxLocals = 2 := hml0
  have hown : s.vm.findClass "java/lang/StringUTF16" = some m.cls := findClass_of_methodNamed Bd.named
  have hnm := (name_of_methodNamed Bd.named Bd.method).1
  have X0 : Stand p l e ({ frames := 0, cells := 0, slots := 0, locals := 0 } : Room) s m #[(.ref a1), (.int (3 : Int32))] below meth c s₁ [] 0 0 := Stand.of_body Bd
  have e0 : s₁.heap = h0 := by rw [← hh, Bd.state]; rfl
  have N0 := Fr.nil n0
  have KP0 : Keep h0 h0 [] := Keep.refl h0 _
  obtain ⟨G, hG⟩ : ∃ G : State, G = s₁.setTop (entryFrame m #[(.ref a1), (.int (3 : Int32))] 2) := ⟨_, rfl⟩
  have pre0 : ∀ t, Steps p.tables e below (s₁.setTop (mkF m 0 #[.val (.ref a1), .val (.int (3 : Int32))] [])) t → Steps p.tables e below G t := fun t k => hG ▸ castTop (ef_rm13_3 m a1) k
  obtain ⟨T1, X1, e1, st1⟩ := getS2 X0 hx hZ hown (host := "") (Or.inl (hw _ (List.mem_of_getElem? (i := 55) rfl))) Via.refl e0 (Sta.ext O0.2 SA) (g := (mkF m 0 #[.val (.ref a1), .val (.int (3 : Int32))] [])) rfl (hb hby d13_0)
  have K2 : ∀ t, Steps p.tables e below (T1.setTop (mkF m 3 #[.val (.ref a1), .val (.int (3 : Int32))] [(.int (1 : Int32))])) t → Steps p.tables e below G t := fun t k => pre0 t (st1 t k)
  have K3 : ∀ t, Steps p.tables e below (T1.setTop (mkF m 37 #[.val (.ref a1), .val (.int (7 : Int32))] [(.int (6 : Int32)), (.ref a1)])) t → Steps p.tables e below G t := by
    intro t k
    refine K2 t ?_
    refine XS.ifYes X1.here hx rfl (pc0 := 3) (pc' := 28) rfl (hb hby d13_3) rfl ((if0 _ _).trans (feq (by decide)).2) (by decide) (by decide) ?_
    refine XS.iloadN X1.here hx rfl (hb hby d13_28) rfl ?_
    refine XS.iconst X1.here hx rfl (hb hby d13_29) ?_
    refine XS.ishl X1.here hx rfl (hb hby d13_30) rfl ?_
    refine XS.istoreN X1.here hx rfl (hb hby d13_31) rfl (l' := #[.val (.ref a1), .val (.int (6 : Int32))]) rfl ?_
    refine XS.aloadN X1.here hx rfl (hb hby d13_32) rfl rfl ?_
    refine XS.iloadN X1.here hx rfl (hb hby d13_33) rfl ?_
    refine XS.iinc X1.here hx rfl (hb hby d13_34) rfl (l' := #[.val (.ref a1), .val (.int (7 : Int32))]) rfl ?_
    exact k
  obtain ⟨cl4, Ar4, qc4, S4, M4, Ha4, Ga4⟩ := id V1
  have hin4 : ¬ ((6 : Int32) < 0 ∨ cl4.slots.size ≤ ((6 : Int32)).toNatClampNeg) := inb_of S4 ⟨by decide, by decide⟩
  have hat4 : cl4.slots[((6 : Int32)).toNatClampNeg]? = some (.int c6) := Ha4.at hin4 rfl
  have K5 : ∀ t, Steps p.tables e below (T1.setTop (mkF m 38 #[.val (.ref a1), .val (.int (7 : Int32))] [(.int c6)])) t → Steps p.tables e below G t := fun t k => K3 t (X1.baloadBytes hx (j := (6 : Int32)) (v := (.int c6)) (by rw [e1]; exact Ar4.1) (State.isArrayOf_alike hZ.alike Ar4.2.1) Ar4.2.2 hin4 hat4 (g := (mkF m 37 #[.val (.ref a1), .val (.int (7 : Int32))] [(.int (6 : Int32)), (.ref a1)])) rfl rfl (hb hby d13_37) _ k)
  have K6 : ∀ t, Steps p.tables e below (T1.setTop (mkF m 42 #[.val (.ref a1), .val (.int (7 : Int32))] [(.int (c6 &&& (255 : Int32)))])) t → Steps p.tables e below G t := by
    intro t k
    refine K5 t ?_
    refine XS.sipush X1.here hx rfl (hb hby d13_38) ?_
    refine XS.iand X1.here hx rfl (hb hby d13_41) rfl ?_
    exact k
  obtain ⟨T7, X7, e7, st7⟩ := getS2 X1 hx hZ hown (host := "") (Or.inl (hw _ (List.mem_of_getElem? (i := 56) rfl))) Via.refl e1 (Sta.ext O0.2 SH) (g := (mkF m 42 #[.val (.ref a1), .val (.int (7 : Int32))] [(.int (c6 &&& (255 : Int32)))])) rfl (hb hby d13_42)
  have K8 : ∀ t, Steps p.tables e below (T7.setTop (mkF m 45 #[.val (.ref a1), .val (.int (7 : Int32))] [(.int (0 : Int32)), (.int (c6 &&& (255 : Int32)))])) t → Steps p.tables e below G t := fun t k => K6 t (st7 t k)
  have K9 : ∀ t, Steps p.tables e below (T7.setTop (mkF m 48 #[.val (.ref a1), .val (.int (7 : Int32))] [(.int (7 : Int32)), (.ref a1), (.int ((c6 &&& (255 : Int32)) <<< ((0 : Int32) &&& 31)))])) t → Steps p.tables e below G t := by
    intro t k
    refine K8 t ?_
    refine XS.ishl X7.here hx rfl (hb hby d13_45) rfl ?_
    refine XS.aloadN X7.here hx rfl (hb hby d13_46) rfl rfl ?_
    refine XS.iloadN X7.here hx rfl (hb hby d13_47) rfl ?_
    exact k
  obtain ⟨cl10, Ar10, qc10, S10, M10, Ha10, Ga10⟩ := id V1
  have hin10 : ¬ ((7 : Int32) < 0 ∨ cl10.slots.size ≤ ((7 : Int32)).toNatClampNeg) := inb_of S10 ⟨by decide, by decide⟩
  have hat10 : cl10.slots[((7 : Int32)).toNatClampNeg]? = some (.int c7) := Ha10.at hin10 rfl
  have K11 : ∀ t, Steps p.tables e below (T7.setTop (mkF m 49 #[.val (.ref a1), .val (.int (7 : Int32))] [(.int c7), (.int ((c6 &&& (255 : Int32)) <<< ((0 : Int32) &&& 31)))])) t → Steps p.tables e below G t := fun t k => K9 t (X7.baloadBytes hx (j := (7 : Int32)) (v := (.int c7)) (by rw [e7]; exact Ar10.1) (State.isArrayOf_alike hZ.alike Ar10.2.1) Ar10.2.2 hin10 hat10 (g := (mkF m 48 #[.val (.ref a1), .val (.int (7 : Int32))] [(.int (7 : Int32)), (.ref a1), (.int ((c6 &&& (255 : Int32)) <<< ((0 : Int32) &&& 31)))])) rfl rfl (hb hby d13_48) _ k)
  have K12 : ∀ t, Steps p.tables e below (T7.setTop (mkF m 53 #[.val (.ref a1), .val (.int (7 : Int32))] [(.int (c7 &&& (255 : Int32))), (.int ((c6 &&& (255 : Int32)) <<< ((0 : Int32) &&& 31)))])) t → Steps p.tables e below G t := by
    intro t k
    refine K11 t ?_
    refine XS.sipush X7.here hx rfl (hb hby d13_49) ?_
    refine XS.iand X7.here hx rfl (hb hby d13_52) rfl ?_
    exact k
  obtain ⟨T13, X13, e13, st13⟩ := getS2 X7 hx hZ hown (host := "") (Or.inl (hw _ (List.mem_of_getElem? (i := 57) rfl))) Via.refl e7 (Sta.ext O0.2 SL) (g := (mkF m 53 #[.val (.ref a1), .val (.int (7 : Int32))] [(.int (c7 &&& (255 : Int32))), (.int ((c6 &&& (255 : Int32)) <<< ((0 : Int32) &&& 31)))])) rfl (hb hby d13_53)
  have K14 : ∀ t, Steps p.tables e below (T13.setTop (mkF m 56 #[.val (.ref a1), .val (.int (7 : Int32))] [(.int (8 : Int32)), (.int (c7 &&& (255 : Int32))), (.int ((c6 &&& (255 : Int32)) <<< ((0 : Int32) &&& 31)))])) t → Steps p.tables e below G t := fun t k => K12 t (st13 t k)
  obtain ⟨fs, hr, hrun, hended, hW, hsame⟩ := X13.leave (v := some (.int (nar .char ((((c6 &&& (255 : Int32)) <<< ((0 : Int32) &&& 31)) ||| ((c7 &&& (255 : Int32)) <<< ((8 : Int32) &&& 31))).toUInt32.toUInt16.toUInt32.toInt32)))) (fun h => by rw [Bd.returns] at h; cases h)
  have KF := K14
  rw [hG] at KF
  refine ⟨_, _, KF _ ?_, hrun, hended, _, _, rfl, ?_, ⟨_, rfl⟩, hW, hsame.mono (by decide) (by decide)⟩
  · refine XS.ishl X13.here hx rfl (hb hby d13_56) rfl ?_
    refine XS.ior X13.here hx rfl (hb hby d13_57) rfl ?_
    refine XS.i2c X13.here hx rfl (hb hby d13_58) rfl ?_
    show Steps p.tables e below (T13.setTop (mkF m 59 #[.val (.ref a1), .val (.int (7 : Int32))] [(.int ((((c6 &&& (255 : Int32)) <<< ((0 : Int32) &&& 31)) ||| ((c7 &&& (255 : Int32)) <<< ((8 : Int32) &&& 31))).toUInt32.toUInt16.toUInt32.toInt32))])) _
    exact retN X13 hx (t := .char) Bd.returns (by simp) (hb hby d13_59) hr
  · show Q13_3 a1 k1 c0 c1 c2 c3 c4 c5 c6 c7 cs fv h0 n0 _ T13.heap _
    rw [e13]
    exact ⟨rfl, N0, rfl⟩
def Q12_3 (Z : State) (a1 : Addr) (k1 : ClassId) (c0 c1 c2 c3 c4 c5 c6 c7 : Int32) (p3 : Int32) (h0 : Heap) (n0 : Nat) (v : Option Value) (h : Heap) (L : List Loc) : Prop := v = none ∧ Fr n0 L ∧ Keep h0 h [a1] ∧ Arv Z h a1 k1 .byte (8 : Int32) [(.int c0), (.int c1), (.int c2), (.int c3), (.int c4), (.int c5), (.int (own_b0 p3)), (.int (own_b1 p3))] (Value.int (0 : Int32))
theorem ef_rm12_3 (m : MethodId) (x0 : Addr) (x2 : Int32) : entryFrame m #[(.ref x0), (.int (3 : Int32)), (.int x2)] 3 = mkF m 0 #[.val (.ref x0), .val (.int (3 : Int32)), .val (.int x2)] [] := by first | (simp [entryFrame, mkF, argsToLocals, Value.category]; done) | rfl
set_option maxRecDepth 65536 in
set_option maxHeartbeats 40000000 in
theorem rm12_3 (l : Launch) (Z : State) (a0 : Array Value) (hw : ∀ d ∈ tables_1, d.before a0 Z = true) (ws : List Jvm.Cond) (a1 : Addr) (k1 : ClassId) (c0 c1 c2 c3 c4 c5 c6 c7 : Int32) (p3 : Int32) (cs : Int32) (fv : Value) (h0 : Heap) (n0 : Nat) (Z0 : n0 ≤ h0.size) (V1 : Arv Z h0 a1 k1 .byte (8 : Int32) [(.int c0), (.int c1), (.int c2), (.int c3), (.int c4), (.int c5), (.int c6), (.int c7)] (Value.int (0 : Int32))) (g1 : n0 ≤ a1) (SC : Sta Z Z.heap "java/lang/String" "COMPACT_STRINGS" "Z" (.int cs)) (hcs : ¬ cs = 0) (SA : Sta Z Z.heap "java/lang/StringUTF16" "$assertionsDisabled" "Z" (.int (1 : Int32))) (SH : Sta Z Z.heap "java/lang/StringUTF16" "HI_BYTE_SHIFT" "I" (.int (0 : Int32))) (SL : Sta Z Z.heap "java/lang/StringUTF16" "LO_BYTE_SHIFT" "I" (.int (8 : Int32))) (SF : Sta Z Z.heap "jdk/internal/util/Preconditions" "SIOOBE_FORMATTER" "Ljava/util/function/BiFunction;" fv) (hfv : fv = .null ∨ ∃ a, fv = .ref a) (O0 : Old Z n0 h0) :
    MetFree l (⟨"java/lang/StringUTF16", "putChar", "([BII)V"⟩ : MethodName) (head1 (Jvm.Cond.code (⟨"java/lang/StringUTF16", "putChar", "([BII)V"⟩ : MethodName) jdk_52_method_4_code 3 none :: ws) ({ frames := 0, cells := 0, slots := 0, locals := 0 } : Room)) (fun a U => a = #[(.ref a1), (.int (3 : Int32)), (.int p3)] ∧ Z.Warmed39 U.vm ∧ U.heap = h0) (fun _ _ _ _ _ => True) (fun _ U o U' => ∃ v L, o = .returned v ∧ Q12_3 Z a1 k1 c0 c1 c2 c3 c4 c5 c6 c7 p3 h0 n0 v U'.heap L ∧ FrameEnd U o U' L ({ frames := 0, cells := 0, slots := 0, locals := 0 } : Room).cells ({ frames := 0, cells := 0, slots := 0, locals := 0 } : Room).slots) := by
  refine MetFree.of_bodySF (plainFor_of_name pn_java_lang_StringUTF16) hisR ?_
  intro p e s m args below meth c s₁ Bd hml0 hP hK
  obtain ⟨rfl, hZ, hh⟩ := hP
  have hx := Bd.exec
  have hby := Bd.bytes
  have hml : c.maxLocals = 3 := hml0
  have hown : s.vm.findClass "java/lang/StringUTF16" = some m.cls := findClass_of_methodNamed Bd.named
  have hnm := (name_of_methodNamed Bd.named Bd.method).1
  have X0 : Stand p l e ({ frames := 0, cells := 0, slots := 0, locals := 0 } : Room) s m #[(.ref a1), (.int (3 : Int32)), (.int p3)] below meth c s₁ [] 0 0 := Stand.of_body Bd
  have e0 : s₁.heap = h0 := by rw [← hh, Bd.state]; rfl
  have N0 := Fr.nil n0
  have KP0 : Keep h0 h0 [a1] := Keep.refl h0 _
  obtain ⟨G, hG⟩ : ∃ G : State, G = s₁.setTop (entryFrame m #[(.ref a1), (.int (3 : Int32)), (.int p3)] 3) := ⟨_, rfl⟩
  have pre0 : ∀ t, Steps p.tables e below (s₁.setTop (mkF m 0 #[.val (.ref a1), .val (.int (3 : Int32)), .val (.int p3)] [])) t → Steps p.tables e below G t := fun t k => hG ▸ castTop (ef_rm12_3 m a1 p3) k
  obtain ⟨T1, X1, e1, st1⟩ := getS2 X0 hx hZ hown (host := "") (Or.inl (hw _ (List.mem_of_getElem? (i := 55) rfl))) Via.refl e0 (Sta.ext O0.2 SA) (g := (mkF m 0 #[.val (.ref a1), .val (.int (3 : Int32)), .val (.int p3)] [])) rfl (hb hby d12_0)
  have K2 : ∀ t, Steps p.tables e below (T1.setTop (mkF m 3 #[.val (.ref a1), .val (.int (3 : Int32)), .val (.int p3)] [(.int (1 : Int32))])) t → Steps p.tables e below G t := fun t k => pre0 t (st1 t k)
  have K3 : ∀ t, Steps p.tables e below (T1.setTop (mkF m 38 #[.val (.ref a1), .val (.int (7 : Int32)), .val (.int p3)] [(.int p3), (.int (6 : Int32)), (.ref a1)])) t → Steps p.tables e below G t := by
    intro t k
    refine K2 t ?_
    refine XS.ifYes X1.here hx rfl (pc0 := 3) (pc' := 28) rfl (hb hby d12_3) rfl ((if0 _ _).trans (feq (by decide)).2) (by decide) (by decide) ?_
    refine XS.iloadN X1.here hx rfl (hb hby d12_28) rfl ?_
    refine XS.iconst X1.here hx rfl (hb hby d12_29) ?_
    refine XS.ishl X1.here hx rfl (hb hby d12_30) rfl ?_
    refine XS.istoreN X1.here hx rfl (hb hby d12_31) rfl (l' := #[.val (.ref a1), .val (.int (6 : Int32)), .val (.int p3)]) rfl ?_
    refine XS.aloadN X1.here hx rfl (hb hby d12_32) rfl rfl ?_
    refine XS.iloadN X1.here hx rfl (hb hby d12_33) rfl ?_
    refine XS.iinc X1.here hx rfl (hb hby d12_34) rfl (l' := #[.val (.ref a1), .val (.int (7 : Int32)), .val (.int p3)]) rfl ?_
    refine XS.iloadN X1.here hx rfl (hb hby d12_37) rfl ?_
    exact k
  obtain ⟨T4, X4, e4, st4⟩ := getS2 X1 hx hZ hown (host := "") (Or.inl (hw _ (List.mem_of_getElem? (i := 56) rfl))) Via.refl e1 (Sta.ext O0.2 SH) (g := (mkF m 38 #[.val (.ref a1), .val (.int (7 : Int32)), .val (.int p3)] [(.int p3), (.int (6 : Int32)), (.ref a1)])) rfl (hb hby d12_38)
  have K5 : ∀ t, Steps p.tables e below (T4.setTop (mkF m 41 #[.val (.ref a1), .val (.int (7 : Int32)), .val (.int p3)] [(.int (0 : Int32)), (.int p3), (.int (6 : Int32)), (.ref a1)])) t → Steps p.tables e below G t := fun t k => K3 t (st4 t k)
  have K6 : ∀ t, Steps p.tables e below (T4.setTop (mkF m 43 #[.val (.ref a1), .val (.int (7 : Int32)), .val (.int p3)] [(.int ((p3 >>> ((0 : Int32) &&& 31)).toInt8.toInt32)), (.int (6 : Int32)), (.ref a1)])) t → Steps p.tables e below G t := by
    intro t k
    refine K5 t ?_
    refine XS.ishr X4.here hx rfl (hb hby d12_41) rfl ?_
    refine XS.i2b X4.here hx rfl (hb hby d12_42) rfl ?_
    exact k
  obtain ⟨cl7, Ar7, qc7, S7, M7, Ha7, Ga7⟩ := id V1
  have hin7 : ¬ ((6 : Int32) < 0 ∨ cl7.slots.size ≤ ((6 : Int32)).toNatClampNeg) := inb_of S7 ⟨by decide, by decide⟩
  obtain ⟨T7, h7, X7, e7, W7, st7⟩ := stB X4 hx hZ e4 Ar7 (j := (6 : Int32)) hin7 (g := (mkF m 43 #[.val (.ref a1), .val (.int (7 : Int32)), .val (.int p3)] [(.int ((p3 >>> ((0 : Int32) &&& 31)).toInt8.toInt32)), (.int (6 : Int32)), (.ref a1)])) rfl rfl (hb hby d12_43)
  have V7 : Arv Z h7 a1 k1 .byte (8 : Int32) [(.int c0), (.int c1), (.int c2), (.int c3), (.int c4), (.int c5), (.int (((p3 >>> ((0 : Int32) &&& 31)).toInt8.toInt32).toInt8.toInt32)), (.int c7)] (Value.int (0 : Int32)) := Arv.set Ar7 qc7 S7 M7 Ha7 Ga7 (fits_nar_byte _) W7 6 rfl (Nat.le_of_ble_eq_true rfl)
  have K8 : ∀ t, Steps p.tables e below (T7.setTop (mkF m 44 #[.val (.ref a1), .val (.int (7 : Int32)), .val (.int p3)] [])) t → Steps p.tables e below G t := fun t k => K6 t (st7 t k)
  have f9 := O0.wr W7 g1
  have Z10 : n0 ≤ h7.size := Nat.le_trans Z0 (Keep.of_wr W7).1
  have KP11 : Keep h0 h7 [a1] := KP0.wr W7 (Or.inl (List.mem_of_getElem? (i := 0) rfl))
  have N12 := Fr.snoc X7 N0 g1
  have K13 : ∀ t, Steps p.tables e below (T7.setTop (mkF m 47 #[.val (.ref a1), .val (.int (7 : Int32)), .val (.int p3)] [(.int p3), (.int (7 : Int32)), (.ref a1)])) t → Steps p.tables e below G t := by
    intro t k
    refine K8 t ?_
    refine XS.aloadN X7.here hx rfl (hb hby d12_44) rfl rfl ?_
    refine XS.iloadN X7.here hx rfl (hb hby d12_45) rfl ?_
    refine XS.iloadN X7.here hx rfl (hb hby d12_46) rfl ?_
    exact k
  obtain ⟨T14, X14, e14, st14⟩ := getS2 X7 hx hZ hown (host := "") (Or.inl (hw _ (List.mem_of_getElem? (i := 57) rfl))) Via.refl e7 (Sta.ext f9.2 SL) (g := (mkF m 47 #[.val (.ref a1), .val (.int (7 : Int32)), .val (.int p3)] [(.int p3), (.int (7 : Int32)), (.ref a1)])) rfl (hb hby d12_47)
  have K15 : ∀ t, Steps p.tables e below (T14.setTop (mkF m 50 #[.val (.ref a1), .val (.int (7 : Int32)), .val (.int p3)] [(.int (8 : Int32)), (.int p3), (.int (7 : Int32)), (.ref a1)])) t → Steps p.tables e below G t := fun t k => K13 t (st14 t k)
  have K16 : ∀ t, Steps p.tables e below (T14.setTop (mkF m 52 #[.val (.ref a1), .val (.int (7 : Int32)), .val (.int p3)] [(.int ((p3 >>> ((8 : Int32) &&& 31)).toInt8.toInt32)), (.int (7 : Int32)), (.ref a1)])) t → Steps p.tables e below G t := by
    intro t k
    refine K15 t ?_
    refine XS.ishr X14.here hx rfl (hb hby d12_50) rfl ?_
    refine XS.i2b X14.here hx rfl (hb hby d12_51) rfl ?_
    exact k
  obtain ⟨cl17, Ar17, qc17, S17, M17, Ha17, Ga17⟩ := id V7
  have hin17 : ¬ ((7 : Int32) < 0 ∨ cl17.slots.size ≤ ((7 : Int32)).toNatClampNeg) := inb_of S17 ⟨by decide, by decide⟩
  obtain ⟨T17, h17, X17, e17, W17, st17⟩ := stB X14 hx hZ e14 Ar17 (j := (7 : Int32)) hin17 (g := (mkF m 52 #[.val (.ref a1), .val (.int (7 : Int32)), .val (.int p3)] [(.int ((p3 >>> ((8 : Int32) &&& 31)).toInt8.toInt32)), (.int (7 : Int32)), (.ref a1)])) rfl rfl (hb hby d12_52)
  have V17 : Arv Z h17 a1 k1 .byte (8 : Int32) [(.int c0), (.int c1), (.int c2), (.int c3), (.int c4), (.int c5), (.int (((p3 >>> ((0 : Int32) &&& 31)).toInt8.toInt32).toInt8.toInt32)), (.int (((p3 >>> ((8 : Int32) &&& 31)).toInt8.toInt32).toInt8.toInt32))] (Value.int (0 : Int32)) := Arv.set Ar17 qc17 S17 M17 Ha17 Ga17 (fits_nar_byte _) W17 7 rfl (Nat.le_of_ble_eq_true rfl)
  have K18 : ∀ t, Steps p.tables e below (T17.setTop (mkF m 53 #[.val (.ref a1), .val (.int (7 : Int32)), .val (.int p3)] [])) t → Steps p.tables e below G t := fun t k => K16 t (st17 t k)
  have f19 := f9.wr W17 g1
  have Z20 : n0 ≤ h17.size := Nat.le_trans Z10 (Keep.of_wr W17).1
  have KP21 : Keep h0 h17 [a1] := KP11.wr W17 (Or.inl (List.mem_of_getElem? (i := 0) rfl))
  have N22 := Fr.snoc X17 N12 g1
  obtain ⟨fs, hr, hrun, hended, hW, hsame⟩ := X17.leave (v := none) (fun _ => rfl)
  have KF := K18
  rw [hG] at KF
  refine ⟨_, _, KF _ ?_, hrun, hended, _, _, rfl, ?_, ⟨_, rfl⟩, hW, hsame.mono (by decide) (by decide)⟩
  · show Steps p.tables e below (T17.setTop (mkF m 53 #[.val (.ref a1), .val (.int (7 : Int32)), .val (.int p3)] [])) _
    exact X17.returnOut hx Bd.returns (hb hby d12_53) hr
  · show Q12_3 Z a1 k1 c0 c1 c2 c3 c4 c5 c6 c7 p3 h0 n0 _ T17.heap _
    rw [e17]
    exact ⟨rfl, N22, KP21, V17⟩
def Q11_c (_u : Unit) (h0 : Heap) (n0 : Nat) (v : Option Value) (h : Heap) (L : List Loc) : Prop := v = some (.int (8 : Int32)) ∧ Fr n0 L ∧ h = h0
theorem d11_0 : decode jdk_52_method_3_code 0 = .ok (.iload_n 0, 1) := by decide +kernel
theorem d11_1 : decode jdk_52_method_3_code 1 = .ok (.ifCond .ge 11, 3) := by decide +kernel
theorem d11_4 : decode jdk_52_method_3_code 4 = .ok (.new 17, 3) := by decide +kernel
theorem d11_7 : decode jdk_52_method_3_code 7 = .ok (.dup, 1) := by decide +kernel
theorem d11_8 : decode jdk_52_method_3_code 8 = .ok (.invokespecial 19, 3) := by decide +kernel
theorem d11_11 : decode jdk_52_method_3_code 11 = .ok (.athrow, 1) := by decide +kernel
theorem d11_12 : decode jdk_52_method_3_code 12 = .ok (.iload_n 0, 1) := by decide +kernel
theorem d11_13 : decode jdk_52_method_3_code 13 = .ok (.ldc 20, 2) := by decide +kernel
theorem d11_15 : decode jdk_52_method_3_code 15 = .ok (.if_icmp .lt 40, 3) := by decide +kernel
theorem d11_18 : decode jdk_52_method_3_code 18 = .ok (.new 21, 3) := by decide +kernel
theorem d11_21 : decode jdk_52_method_3_code 21 = .ok (.dup, 1) := by decide +kernel
theorem d11_22 : decode jdk_52_method_3_code 22 = .ok (.new 23, 3) := by decide +kernel
theorem d11_25 : decode jdk_52_method_3_code 25 = .ok (.dup, 1) := by decide +kernel
theorem d11_26 : decode jdk_52_method_3_code 26 = .ok (.invokespecial 25, 3) := by decide +kernel
theorem d11_29 : decode jdk_52_method_3_code 29 = .ok (.ldc 26, 2) := by decide +kernel
theorem d11_31 : decode jdk_52_method_3_code 31 = .ok (.invokevirtual 28, 3) := by decide +kernel
theorem d11_34 : decode jdk_52_method_3_code 34 = .ok (.iload_n 0, 1) := by decide +kernel
theorem d11_35 : decode jdk_52_method_3_code 35 = .ok (.invokevirtual 32, 3) := by decide +kernel
theorem d11_38 : decode jdk_52_method_3_code 38 = .ok (.ldc 35, 2) := by decide +kernel
theorem d11_40 : decode jdk_52_method_3_code 40 = .ok (.invokevirtual 28, 3) := by decide +kernel
theorem d11_43 : decode jdk_52_method_3_code 43 = .ok (.ldc 20, 2) := by decide +kernel
theorem d11_45 : decode jdk_52_method_3_code 45 = .ok (.invokevirtual 32, 3) := by decide +kernel
theorem d11_48 : decode jdk_52_method_3_code 48 = .ok (.invokevirtual 37, 3) := by decide +kernel
theorem d11_51 : decode jdk_52_method_3_code 51 = .ok (.invokespecial 41, 3) := by decide +kernel
theorem d11_54 : decode jdk_52_method_3_code 54 = .ok (.athrow, 1) := by decide +kernel
theorem d11_55 : decode jdk_52_method_3_code 55 = .ok (.iload_n 0, 1) := by decide +kernel
theorem d11_56 : decode jdk_52_method_3_code 56 = .ok (.iconst 1, 1) := by decide +kernel
theorem d11_57 : decode jdk_52_method_3_code 57 = .ok (.ishl, 1) := by decide +kernel
theorem d11_58 : decode jdk_52_method_3_code 58 = .ok (.ireturn, 1) := by decide +kernel
theorem ef_rm11_c (m : MethodId)  : entryFrame m #[(.int (4 : Int32))] 1 = mkF m 0 #[.val (.int (4 : Int32))] [] := by first | (simp [entryFrame, mkF, argsToLocals, Value.category]; done) | rfl
set_option maxRecDepth 65536 in
set_option maxHeartbeats 40000000 in
theorem rm11_c (l : Launch) (Z : State) (a0 : Array Value) (hw : ∀ d ∈ tables_1, d.before a0 Z = true) (ws : List Jvm.Cond) (_u : Unit) (h0 : Heap) (n0 : Nat) (Z0 : n0 ≤ h0.size) :
    MetFree l (⟨"java/lang/StringUTF16", "newBytesLength", "(I)I"⟩ : MethodName) (head1 (Jvm.Cond.code (⟨"java/lang/StringUTF16", "newBytesLength", "(I)I"⟩ : MethodName) jdk_52_method_3_code 1 (some .int) :: ws) ({ frames := 0, cells := 0, slots := 0, locals := 0 } : Room)) (fun a U => a = #[(.int (4 : Int32))] ∧ Z.Warmed39 U.vm ∧ U.heap = h0) (fun _ _ _ _ _ => True) (fun _ U o U' => ∃ v L, o = .returned v ∧ Q11_c _u h0 n0 v U'.heap L ∧ FrameEnd U o U' L ({ frames := 0, cells := 0, slots := 0, locals := 0 } : Room).cells ({ frames := 0, cells := 0, slots := 0, locals := 0 } : Room).slots) := by
  refine MetFree.of_bodySF (plainFor_of_name pn_java_lang_StringUTF16) hisR ?_
  intro p e s m args below meth c s₁ Bd hml0 hP hK
  obtain ⟨rfl, hZ, hh⟩ := hP
  have hx := Bd.exec
  have hby := Bd.bytes
  have hml : c.maxLocals = 1 := hml0
  have hown : s.vm.findClass "java/lang/StringUTF16" = some m.cls := findClass_of_methodNamed Bd.named
  have hnm := (name_of_methodNamed Bd.named Bd.method).1
  have X0 : Stand p l e ({ frames := 0, cells := 0, slots := 0, locals := 0 } : Room) s m #[(.int (4 : Int32))] below meth c s₁ [] 0 0 := Stand.of_body Bd
  have e0 : s₁.heap = h0 := by rw [← hh, Bd.state]; rfl
  have N0 := Fr.nil n0
  have KP0 : Keep h0 h0 [] := Keep.refl h0 _
  obtain ⟨G, hG⟩ : ∃ G : State, G = s₁.setTop (entryFrame m #[(.int (4 : Int32))] 1) := ⟨_, rfl⟩
  have pre0 : ∀ t, Steps p.tables e below (s₁.setTop (mkF m 0 #[.val (.int (4 : Int32))] [])) t → Steps p.tables e below G t := fun t k => hG ▸ castTop (ef_rm11_c m ) k
  obtain ⟨fs, hr, hrun, hended, hW, hsame⟩ := X0.leave (v := some (.int (8 : Int32))) (fun h => by rw [Bd.returns] at h; cases h)
  have KF := pre0
  rw [hG] at KF
  refine ⟨_, _, KF _ ?_, hrun, hended, _, _, rfl, ?_, ⟨_, rfl⟩, hW, hsame.mono (by decide) (by decide)⟩
  · refine XS.iloadN X0.here hx rfl (hb hby d11_0) rfl ?_
    refine XS.ifYes X0.here hx rfl (pc0 := 1) (pc' := 12) rfl (hb hby d11_1) rfl ((if0 _ _).trans (flt (by decide)).2.1) (by decide) (by decide) ?_
    refine XS.iloadN X0.here hx rfl (hb hby d11_12) rfl ?_
    refine X0.ldcInt hx hown (mvT hZ (hw _ (List.mem_of_getElem? (i := 51) rfl))) (g := (mkF m 13 #[.val (.int (4 : Int32))] [(.int (4 : Int32))])) rfl (hb hby d11_13) _ ?_
    refine XS.icmpYes X0.here hx rfl (pc0 := 15) (pc' := 55) rfl (hb hby d11_15) rfl (tlt (by decide)).1 (by decide) (by decide) ?_
    refine XS.iloadN X0.here hx rfl (hb hby d11_55) rfl ?_
    refine XS.iconst X0.here hx rfl (hb hby d11_56) ?_
    refine XS.ishl X0.here hx rfl (hb hby d11_57) rfl ?_
    show Steps p.tables e below (s₁.setTop (mkF m 58 #[.val (.int (4 : Int32))] [(.int (8 : Int32))])) _
    exact own_retI X0 hx Bd.returns (hb hby d11_58) hr
  · show Q11_c _u h0 n0 _ s₁.heap _
    rw [e0]
    exact ⟨rfl, N0, rfl⟩
def Q10 (Z : State) (h0 : Heap) (n0 : Nat) (v : Option Value) (h : Heap) (L : List Loc) : Prop := ∃ (b : Addr) (k : ClassId), v = some (.ref b) ∧ Fr n0 L ∧ Keep h0 h [] ∧ h0.size ≤ b ∧ Arv Z h b k .byte (8 : Int32) [(.int (0 : Int32)), (.int (0 : Int32)), (.int (0 : Int32)), (.int (0 : Int32)), (.int (0 : Int32)), (.int (0 : Int32)), (.int (0 : Int32)), (.int (0 : Int32))] (Value.int (0 : Int32))
theorem d10_0 : decode jdk_52_method_2_code 0 = .ok (.iload_n 0, 1) := by decide +kernel
theorem d10_1 : decode jdk_52_method_2_code 1 = .ok (.invokestatic 11, 3) := by decide +kernel
theorem d10_4 : decode jdk_52_method_2_code 4 = .ok (.newarray .byte, 2) := by decide +kernel
theorem d10_6 : decode jdk_52_method_2_code 6 = .ok (.areturn, 1) := by decide +kernel
theorem pd_6 : parseMethodDescriptor "(I)I" = some ⟨[.int], some .int⟩ := by decide +kernel
theorem ef_rm10 (m : MethodId)  : entryFrame m #[(.int (4 : Int32))] 1 = mkF m 0 #[.val (.int (4 : Int32))] [] := by first | (simp [entryFrame, mkF, argsToLocals, Value.category]; done) | rfl
set_option maxRecDepth 65536 in
set_option maxHeartbeats 40000000 in
theorem rm10 (l : Launch) (Z : State) (a0 : Array Value) (hw : ∀ d ∈ tables_1, d.before a0 Z = true) (ws : List Jvm.Cond)  (h0 : Heap) (n0 : Nat) (Z0 : n0 ≤ h0.size) :
    MetFree l (⟨"java/lang/StringUTF16", "newBytesFor", "(I)[B"⟩ : MethodName) (head1 (Jvm.Cond.code (⟨"java/lang/StringUTF16", "newBytesFor", "(I)[B"⟩ : MethodName) jdk_52_method_2_code 1 (some (.array .byte)) :: ws) ({ frames := 1, cells := 1, slots := 8, locals := 12 } : Room)) (fun a U => a = #[(.int (4 : Int32))] ∧ Z.Warmed39 U.vm ∧ U.heap = h0) (fun _ _ _ _ _ => True) (fun _ U o U' => ∃ v L, o = .returned v ∧ Q10 Z h0 n0 v U'.heap L ∧ FrameEnd U o U' L ({ frames := 1, cells := 1, slots := 8, locals := 12 } : Room).cells ({ frames := 1, cells := 1, slots := 8, locals := 12 } : Room).slots) := by
  refine MetFree.of_bodySF (plainFor_of_name pn_java_lang_StringUTF16) hisR ?_
  intro p e s m args below meth c s₁ Bd hml0 hP hK
  obtain ⟨rfl, hZ, hh⟩ := hP
  have hx := Bd.exec
  have hby := Bd.bytes
  have hml : c.maxLocals = 1 := hml0
  have hown : s.vm.findClass "java/lang/StringUTF16" = some m.cls := findClass_of_methodNamed Bd.named
  have hnm := (name_of_methodNamed Bd.named Bd.method).1
  have X0 : Stand p l e ({ frames := 1, cells := 1, slots := 8, locals := 12 } : Room) s m #[(.int (4 : Int32))] below meth c s₁ [] 0 0 := Stand.of_body Bd
  have e0 : s₁.heap = h0 := by rw [← hh, Bd.state]; rfl
  have N0 := Fr.nil n0
  have KP0 : Keep h0 h0 [] := Keep.refl h0 _
  obtain ⟨G, hG⟩ : ∃ G : State, G = s₁.setTop (entryFrame m #[(.int (4 : Int32))] 1) := ⟨_, rfl⟩
  have pre0 : ∀ t, Steps p.tables e below (s₁.setTop (mkF m 0 #[.val (.int (4 : Int32))] [])) t → Steps p.tables e below G t := fun t k => hG ▸ castTop (ef_rm10 m ) k
  have K1 : ∀ t, Steps p.tables e below (s₁.setTop (mkF m 1 #[.val (.int (4 : Int32))] [(.int (4 : Int32))])) t → Steps p.tables e below G t := by
    intro t k
    refine pre0 t ?_
    refine XS.iloadN X0.here hx rfl (hb hby d10_0) rfl ?_
    exact k
  obtain ⟨_, _, ⟨T2, L2, kk2, nn2⟩, -, X2, ⟨Lc2, hQ2, lq2, yq2, zq2⟩, st2⟩ := Jvm.LawKit.callS X0 hx (y := (⟨"java/lang/StringUTF16", "newBytesLength", "(I)I"⟩ : MethodName)) hown (mvT hZ (hw _ (List.mem_of_getElem? (i := 48) rfl))) (mvT hZ (hw _ (List.mem_of_getElem? (i := 49) rfl))) (mvT hZ (hw _ (List.mem_of_getElem? (i := 36) rfl))) (mvT hZ (hw _ (List.mem_of_getElem? (i := 50) rfl))) (by decide) (backOf (W := 0) (rm11_c l Z a0 hw [] () h0 n0 Z0 ) hZ (hw _ (List.mem_of_getElem? (i := 50) rfl)) (hw _ (List.mem_of_getElem? (i := 36) rfl)) (by decide) (by decide)) (g := (mkF m 1 #[.val (.int (4 : Int32))] [(.int (4 : Int32))])) rfl (by rw [hml]; rfl) (argsL := [(.int (4 : Int32))]) (rest := []) (lenOf pd_6 rfl) rfl (by show 2 * 0 + _ ≤ _; exact Nat.le_of_eq rfl) (hb hby d10_1) (fun _ _ => ⟨rfl, e0, (by decide : 0 + 0 ≤ _), (by decide : 0 + 0 ≤ _)⟩)
  dsimp only [Pt.U, Pt.locs, Pt.cells, Pt.slots] at X2 lq2 yq2 zq2 st2 hQ2
  subst lq2 yq2 zq2
  obtain ⟨rfl, Nq2, e2⟩ := hQ2
  have N3 := Fr.app N0 Nq2
  have K4 : ∀ t, Steps p.tables e below (T2.setTop (mkF m 4 #[.val (.int (4 : Int32))] [(.int (8 : Int32))])) t → Steps p.tables e below G t := fun t k => K1 t (st2 _ k)
  obtain ⟨T5, h5, kn5, X5, e5, E5, A5, st5⟩ := newP X2 hx hZ (hw _ (List.mem_of_getElem? (i := 38) rfl)) e2 (g := (mkF m 4 #[.val (.int (4 : Int32))] [(.int (8 : Int32))])) rfl (hb hby d10_4) rfl (by decide) (cap := 8) (by decide) (by decide) (by decide) (by decide)
  obtain ⟨b5, g5⟩ : ∃ z, z = h0.size := ⟨_, rfl⟩
  rw [← g5] at A5 st5
  have g_b5 : n0 ≤ b5 := Nat.le_trans Z0 (Nat.le_of_eq g5.symm)
  have sz_b5 : h0.size ≤ b5 := Nat.le_trans KP0.1 (Nat.le_of_eq g5.symm)
  have Z6 : n0 ≤ h5.size := Nat.le_trans Z0 E5.1
  have KP7 : Keep h0 h5 [] := KP0.ext E5
  have K8 : ∀ t, Steps p.tables e below (T5.setTop (mkF m 6 #[.val (.int (4 : Int32))] [(.ref b5)])) t → Steps p.tables e below G t := fun t k => K4 t (st5 t k)
  have V5 : Arv Z h5 b5 kn5 .byte (8 : Int32) [(.int (0 : Int32)), (.int (0 : Int32)), (.int (0 : Int32)), (.int (0 : Int32)), (.int (0 : Int32)), (.int (0 : Int32)), (.int (0 : Int32)), (.int (0 : Int32))] (.int (0 : Int32)) := (Arv.new A5 (by decide)).pad (pad_rep [] (.int (0 : Int32)) 8)
  obtain ⟨fs, hr, hrun, hended, hW, hsame⟩ := X5.leave (v := some (.ref b5)) (fun h => by rw [Bd.returns] at h; cases h)
  have KF := K8
  rw [hG] at KF
  refine ⟨_, _, KF _ ?_, hrun, hended, _, _, rfl, ?_, ⟨_, rfl⟩, hW, hsame.mono (by decide) (by decide)⟩
  · show Steps p.tables e below (T5.setTop (mkF m 6 #[.val (.int (4 : Int32))] [(.ref b5)])) _
    exact own_retA X5 hx Bd.returns rfl rfl rfl (hb hby d10_6) hr
  · show Q10 Z h0 n0 _ T5.heap _
    rw [e5]
    exact ⟨_, _, rfl, N3, KP7, sz_b5, V5⟩
def Q9 (Z : State) (ee0 ee1 ee2 ee3 : Int32) (h0 : Heap) (n0 : Nat) (v : Option Value) (h : Heap) (L : List Loc) : Prop := ∃ (b : Addr) (k : ClassId), v = some (.ref b) ∧ Fr n0 L ∧ Keep h0 h [] ∧ h0.size ≤ b ∧ Arv Z h b k .byte (8 : Int32) [(.int (own_b0 ee0)), (.int (own_b1 ee0)), (.int (own_b0 ee1)), (.int (own_b1 ee1)), (.int (own_b0 ee2)), (.int (own_b1 ee2)), (.int (own_b0 ee3)), (.int (own_b1 ee3))] (Value.int (0 : Int32))
theorem d9_0 : decode jdk_52_method_14_code 0 = .ok (.iload_n 2, 1) := by decide +kernel
theorem d9_1 : decode jdk_52_method_14_code 1 = .ok (.invokestatic 107, 3) := by decide +kernel
theorem d9_4 : decode jdk_52_method_14_code 4 = .ok (.astore_n 3, 1) := by decide +kernel
theorem d9_5 : decode jdk_52_method_14_code 5 = .ok (.iconst 0, 1) := by decide +kernel
theorem d9_6 : decode jdk_52_method_14_code 6 = .ok (.istore 4, 2) := by decide +kernel
theorem d9_8 : decode jdk_52_method_14_code 8 = .ok (.iload 4, 2) := by decide +kernel
theorem d9_10 : decode jdk_52_method_14_code 10 = .ok (.iload_n 2, 1) := by decide +kernel
theorem d9_11 : decode jdk_52_method_14_code 11 = .ok (.if_icmp .ge 21, 3) := by decide +kernel
theorem d9_14 : decode jdk_52_method_14_code 14 = .ok (.aload_n 3, 1) := by decide +kernel
theorem d9_15 : decode jdk_52_method_14_code 15 = .ok (.iload 4, 2) := by decide +kernel
theorem d9_17 : decode jdk_52_method_14_code 17 = .ok (.aload_n 0, 1) := by decide +kernel
theorem d9_18 : decode jdk_52_method_14_code 18 = .ok (.iload_n 1, 1) := by decide +kernel
theorem d9_19 : decode jdk_52_method_14_code 19 = .ok (.caload, 1) := by decide +kernel
theorem d9_20 : decode jdk_52_method_14_code 20 = .ok (.invokestatic 111, 3) := by decide +kernel
theorem d9_23 : decode jdk_52_method_14_code 23 = .ok (.iinc 1 1, 3) := by decide +kernel
theorem d9_26 : decode jdk_52_method_14_code 26 = .ok (.iinc 4 1, 3) := by decide +kernel
theorem d9_29 : decode jdk_52_method_14_code 29 = .ok (.goto (-21), 3) := by decide +kernel
theorem d9_32 : decode jdk_52_method_14_code 32 = .ok (.aload_n 3, 1) := by decide +kernel
theorem d9_33 : decode jdk_52_method_14_code 33 = .ok (.areturn, 1) := by decide +kernel
theorem pd_7 : parseMethodDescriptor "(I)[B" = some ⟨[.int], some (.array .byte)⟩ := by decide +kernel
theorem pd_8 : parseMethodDescriptor "([BII)V" = some ⟨[(.array .byte), .int, .int], none⟩ := by decide +kernel
theorem ef_rm9 (m : MethodId) (x0 : Addr) : entryFrame m #[(.ref x0), (.int (0 : Int32)), (.int (4 : Int32))] 5 = mkF m 0 #[.val (.ref x0), .val (.int (0 : Int32)), .val (.int (4 : Int32)), .unset, .unset] [] := by first | (simp [entryFrame, mkF, argsToLocals, Value.category]; done) | rfl
set_option maxRecDepth 65536 in
set_option maxHeartbeats 40000000 in
theorem rm9 (l : Launch) (Z : State) (a0 : Array Value) (hw : ∀ d ∈ tables_1, d.before a0 Z = true) (ws : List Jvm.Cond) (a1 : Addr) (k1 : ClassId) (ee0 ee1 ee2 ee3 : Int32) (cs : Int32) (fv : Value) (h0 : Heap) (n0 : Nat) (Z0 : n0 ≤ h0.size) (V1 : Arv Z h0 a1 k1 .char (4 : Int32) [(.int ee0), (.int ee1), (.int ee2), (.int ee3)] (Value.int (0 : Int32))) (SC : Sta Z Z.heap "java/lang/String" "COMPACT_STRINGS" "Z" (.int cs)) (hcs : ¬ cs = 0) (SA : Sta Z Z.heap "java/lang/StringUTF16" "$assertionsDisabled" "Z" (.int (1 : Int32))) (SH : Sta Z Z.heap "java/lang/StringUTF16" "HI_BYTE_SHIFT" "I" (.int (0 : Int32))) (SL : Sta Z Z.heap "java/lang/StringUTF16" "LO_BYTE_SHIFT" "I" (.int (8 : Int32))) (SF : Sta Z Z.heap "jdk/internal/util/Preconditions" "SIOOBE_FORMATTER" "Ljava/util/function/BiFunction;" fv) (hfv : fv = .null ∨ ∃ a, fv = .ref a) (O0 : Old Z n0 h0) :
    MetFree l (⟨"java/lang/StringUTF16", "toBytes", "([CII)[B"⟩ : MethodName) (head1 (Jvm.Cond.code (⟨"java/lang/StringUTF16", "toBytes", "([CII)[B"⟩ : MethodName) jdk_52_method_14_code 5 (some (.array .byte)) :: ws) ({ frames := 2, cells := 1, slots := 8, locals := 24 } : Room)) (fun a U => a = #[(.ref a1), (.int (0 : Int32)), (.int (4 : Int32))] ∧ Z.Warmed39 U.vm ∧ U.heap = h0) (fun _ _ _ _ _ => True) (fun _ U o U' => ∃ v L, o = .returned v ∧ Q9 Z ee0 ee1 ee2 ee3 h0 n0 v U'.heap L ∧ FrameEnd U o U' L ({ frames := 2, cells := 1, slots := 8, locals := 24 } : Room).cells ({ frames := 2, cells := 1, slots := 8, locals := 24 } : Room).slots) := by
  refine MetFree.of_bodySF (plainFor_of_name pn_java_lang_StringUTF16) hisR ?_
  intro p e s m args below meth c s₁ Bd hml0 hP hK
  obtain ⟨rfl, hZ, hh⟩ := hP
  have hx := Bd.exec
  have hby := Bd.bytes
  have hml : c.maxLocals = 5 := hml0
  have hown : s.vm.findClass "java/lang/StringUTF16" = some m.cls := findClass_of_methodNamed Bd.named
  have hnm := (name_of_methodNamed Bd.named Bd.method).1
  have X0 : Stand p l e ({ frames := 2, cells := 1, slots := 8, locals := 24 } : Room) s m #[(.ref a1), (.int (0 : Int32)), (.int (4 : Int32))] below meth c s₁ [] 0 0 := Stand.of_body Bd
  have e0 : s₁.heap = h0 := by rw [← hh, Bd.state]; rfl
  have N0 := Fr.nil n0
  have KP0 : Keep h0 h0 [] := Keep.refl h0 _
  obtain ⟨G, hG⟩ : ∃ G : State, G = s₁.setTop (entryFrame m #[(.ref a1), (.int (0 : Int32)), (.int (4 : Int32))] 5) := ⟨_, rfl⟩
  have pre0 : ∀ t, Steps p.tables e below (s₁.setTop (mkF m 0 #[.val (.ref a1), .val (.int (0 : Int32)), .val (.int (4 : Int32)), .unset, .unset] [])) t → Steps p.tables e below G t := fun t k => hG ▸ castTop (ef_rm9 m a1) k
  have K1 : ∀ t, Steps p.tables e below (s₁.setTop (mkF m 1 #[.val (.ref a1), .val (.int (0 : Int32)), .val (.int (4 : Int32)), .unset, .unset] [(.int (4 : Int32))])) t → Steps p.tables e below G t := by
    intro t k
    refine pre0 t ?_
    refine XS.iloadN X0.here hx rfl (hb hby d9_0) rfl ?_
    exact k
  obtain ⟨_, _, ⟨T2, L2, kk2, nn2⟩, -, X2, ⟨Lc2, hQ2, lq2, yq2, zq2⟩, st2⟩ := Jvm.LawKit.callS X0 hx (y := (⟨"java/lang/StringUTF16", "newBytesFor", "(I)[B"⟩ : MethodName)) hown (mvT hZ (hw _ (List.mem_of_getElem? (i := 45) rfl))) (mvT hZ (hw _ (List.mem_of_getElem? (i := 46) rfl))) (mvT hZ (hw _ (List.mem_of_getElem? (i := 36) rfl))) (mvT hZ (hw _ (List.mem_of_getElem? (i := 47) rfl))) (by decide) (backOf (W := 0) (rm10 l Z a0 hw [] h0 n0 Z0) hZ (hw _ (List.mem_of_getElem? (i := 47) rfl)) (hw _ (List.mem_of_getElem? (i := 36) rfl)) (by decide) (by decide)) (g := (mkF m 1 #[.val (.ref a1), .val (.int (0 : Int32)), .val (.int (4 : Int32)), .unset, .unset] [(.int (4 : Int32))])) rfl (by rw [hml]; rfl) (argsL := [(.int (4 : Int32))]) (rest := []) (lenOf pd_7 rfl) rfl (by show 2 * 0 + _ ≤ _; exact Nat.le_of_eq rfl) (hb hby d9_1) (fun _ _ => ⟨rfl, e0, (by decide : 0 + 1 ≤ _), (by decide : 0 + 8 ≤ _)⟩)
  dsimp only [Pt.U, Pt.locs, Pt.cells, Pt.slots] at X2 lq2 yq2 zq2 st2 hQ2
  subst lq2 yq2 zq2
  obtain ⟨b2, kb2, rfl, Nq2, K2, sz2, V2⟩ := hQ2
  have N3 := Fr.app N0 Nq2
  have ne_a1_b2 : a1 ≠ b2 := Nat.ne_of_lt (Nat.lt_of_lt_of_le V1.lt sz2)
  have g_b2 : n0 ≤ b2 := Nat.le_trans Z0 sz2
  have sz_b2 : h0.size ≤ b2 := Nat.le_trans KP0.1 sz2
  have f4 := V1.keep K2 nin0
  have f5 := O0.keep K2 all0
  have Z6 : n0 ≤ T2.heap.size := Nat.le_trans Z0 K2.1
  have KP7 : Keep h0 T2.heap [] := KP0.trans K2 all0
  have K8 : ∀ t, Steps p.tables e below (T2.setTop (mkF m 4 #[.val (.ref a1), .val (.int (0 : Int32)), .val (.int (4 : Int32)), .unset, .unset] [(.ref b2)])) t → Steps p.tables e below G t := fun t k => K1 t (st2 _ k)
  have K9 : ∀ t, Steps p.tables e below (T2.setTop (mkF m 19 #[.val (.ref a1), .val (.int (0 : Int32)), .val (.int (4 : Int32)), .val (.ref b2), .val (.int (0 : Int32))] [(.int (0 : Int32)), (.ref a1), (.int (0 : Int32)), (.ref b2)])) t → Steps p.tables e below G t := by
    intro t k
    refine K8 t ?_
    refine XS.astoreN X2.here hx rfl (hb hby d9_4) rfl rfl (l' := #[.val (.ref a1), .val (.int (0 : Int32)), .val (.int (4 : Int32)), .val (.ref b2), .unset]) rfl ?_
    refine XS.iconst X2.here hx rfl (hb hby d9_5) ?_
    refine XS.istore X2.here hx rfl (hb hby d9_6) rfl (l' := #[.val (.ref a1), .val (.int (0 : Int32)), .val (.int (4 : Int32)), .val (.ref b2), .val (.int (0 : Int32))]) rfl ?_
    refine XS.iload X2.here hx rfl (hb hby d9_8) rfl ?_
    refine XS.iloadN X2.here hx rfl (hb hby d9_10) rfl ?_
    refine XS.icmpNo X2.here hx rfl (hb hby d9_11) rfl (tlt (by decide)).2.1 ?_
    refine XS.aloadN X2.here hx rfl (hb hby d9_14) rfl rfl ?_
    refine XS.iload X2.here hx rfl (hb hby d9_15) rfl ?_
    refine XS.aloadN X2.here hx rfl (hb hby d9_17) rfl rfl ?_
    refine XS.iloadN X2.here hx rfl (hb hby d9_18) rfl ?_
    exact k
  obtain ⟨cl10, Ar10, qc10, S10, M10, Ha10, Ga10⟩ := id f4
  have hin10 : ¬ ((0 : Int32) < 0 ∨ cl10.slots.size ≤ ((0 : Int32)).toNatClampNeg) := inb_of S10 ⟨by decide, by decide⟩
  have hat10 : cl10.slots[((0 : Int32)).toNatClampNeg]? = some (.int ee0) := Ha10.at hin10 rfl
  have K11 : ∀ t, Steps p.tables e below (T2.setTop (mkF m 20 #[.val (.ref a1), .val (.int (0 : Int32)), .val (.int (4 : Int32)), .val (.ref b2), .val (.int (0 : Int32))] [(.int ee0), (.int (0 : Int32)), (.ref b2)])) t → Steps p.tables e below G t := fun t k => K9 t (X2.caload hx (j := (0 : Int32)) (v := (.int ee0)) Ar10.1 (State.isArrayOf_alike hZ.alike Ar10.2.1) Ar10.2.2 hin10 hat10 (g := (mkF m 19 #[.val (.ref a1), .val (.int (0 : Int32)), .val (.int (4 : Int32)), .val (.ref b2), .val (.int (0 : Int32))] [(.int (0 : Int32)), (.ref a1), (.int (0 : Int32)), (.ref b2)])) rfl rfl (hb hby d9_19) _ k)
  obtain ⟨_, _, ⟨T12, L12, kk12, nn12⟩, -, X12, ⟨Lc12, hQ12, lq12, yq12, zq12⟩, st12⟩ := Jvm.LawKit.callS X2 hx (y := (⟨"java/lang/StringUTF16", "putChar", "([BII)V"⟩ : MethodName)) hown (mvT hZ (hw _ (List.mem_of_getElem? (i := 52) rfl))) (mvT hZ (hw _ (List.mem_of_getElem? (i := 53) rfl))) (mvT hZ (hw _ (List.mem_of_getElem? (i := 36) rfl))) (mvT hZ (hw _ (List.mem_of_getElem? (i := 54) rfl))) (by decide) (backOf (W := 0) (rm12_0 l Z a0 hw [] b2 kb2 (0 : Int32) (0 : Int32) (0 : Int32) (0 : Int32) (0 : Int32) (0 : Int32) (0 : Int32) (0 : Int32) ee0 cs fv T2.heap n0 Z6 V2 g_b2 SC hcs SA SH SL SF hfv f5) hZ (hw _ (List.mem_of_getElem? (i := 54) rfl)) (hw _ (List.mem_of_getElem? (i := 36) rfl)) (by decide) (by decide)) (g := (mkF m 20 #[.val (.ref a1), .val (.int (0 : Int32)), .val (.int (4 : Int32)), .val (.ref b2), .val (.int (0 : Int32))] [(.int ee0), (.int (0 : Int32)), (.ref b2)])) rfl (by rw [hml]; rfl) (argsL := [(.ref b2), (.int (0 : Int32)), (.int ee0)]) (rest := []) (lenOf pd_8 rfl) rfl (by show 2 * 0 + _ ≤ _; exact Nat.le_of_eq rfl) (hb hby d9_20) (fun _ _ => ⟨rfl, rfl, (by decide : 1 + 0 ≤ _), (by decide : 8 + 0 ≤ _)⟩)
  dsimp only [Pt.U, Pt.locs, Pt.cells, Pt.slots] at X12 lq12 yq12 zq12 st12 hQ12
  subst lq12 yq12 zq12
  obtain ⟨rfl, Nq12, K12, V12⟩ := hQ12
  have N13 := Fr.app N3 Nq12
  have f14 := f4.keep K12 (ninS ne_a1_b2 nin0)
  have f15 := f5.keep K12 (allS g_b2 all0)
  have Z16 : n0 ≤ T12.heap.size := Nat.le_trans Z6 K12.1
  have KP17 : Keep h0 T12.heap [] := KP7.trans K12 (allS (Or.inr sz_b2) all0)
  have K18 : ∀ t, Steps p.tables e below (T12.setTop (mkF m 23 #[.val (.ref a1), .val (.int (0 : Int32)), .val (.int (4 : Int32)), .val (.ref b2), .val (.int (0 : Int32))] [])) t → Steps p.tables e below G t := fun t k => K11 t (st12 _ k)
  have K19 : ∀ t, Steps p.tables e below (T12.setTop (mkF m 19 #[.val (.ref a1), .val (.int (1 : Int32)), .val (.int (4 : Int32)), .val (.ref b2), .val (.int (1 : Int32))] [(.int (1 : Int32)), (.ref a1), (.int (1 : Int32)), (.ref b2)])) t → Steps p.tables e below G t := by
    intro t k
    refine K18 t ?_
    refine XS.iinc X12.here hx rfl (hb hby d9_23) rfl (l' := #[.val (.ref a1), .val (.int (1 : Int32)), .val (.int (4 : Int32)), .val (.ref b2), .val (.int (0 : Int32))]) rfl ?_
    refine XS.iinc X12.here hx rfl (hb hby d9_26) rfl (l' := #[.val (.ref a1), .val (.int (1 : Int32)), .val (.int (4 : Int32)), .val (.ref b2), .val (.int (1 : Int32))]) rfl ?_
    refine XS.goto X12.here hx rfl (pc0 := 29) (pc' := 8) rfl (hb hby d9_29) (by decide) (by decide) ?_
    refine XS.iload X12.here hx rfl (hb hby d9_8) rfl ?_
    refine XS.iloadN X12.here hx rfl (hb hby d9_10) rfl ?_
    refine XS.icmpNo X12.here hx rfl (hb hby d9_11) rfl (tlt (by decide)).2.1 ?_
    refine XS.aloadN X12.here hx rfl (hb hby d9_14) rfl rfl ?_
    refine XS.iload X12.here hx rfl (hb hby d9_15) rfl ?_
    refine XS.aloadN X12.here hx rfl (hb hby d9_17) rfl rfl ?_
    refine XS.iloadN X12.here hx rfl (hb hby d9_18) rfl ?_
    exact k
  obtain ⟨cl20, Ar20, qc20, S20, M20, Ha20, Ga20⟩ := id f14
  have hin20 : ¬ ((1 : Int32) < 0 ∨ cl20.slots.size ≤ ((1 : Int32)).toNatClampNeg) := inb_of S20 ⟨by decide, by decide⟩
  have hat20 : cl20.slots[((1 : Int32)).toNatClampNeg]? = some (.int ee1) := Ha20.at hin20 rfl
  have K21 : ∀ t, Steps p.tables e below (T12.setTop (mkF m 20 #[.val (.ref a1), .val (.int (1 : Int32)), .val (.int (4 : Int32)), .val (.ref b2), .val (.int (1 : Int32))] [(.int ee1), (.int (1 : Int32)), (.ref b2)])) t → Steps p.tables e below G t := fun t k => K19 t (X12.caload hx (j := (1 : Int32)) (v := (.int ee1)) Ar20.1 (State.isArrayOf_alike hZ.alike Ar20.2.1) Ar20.2.2 hin20 hat20 (g := (mkF m 19 #[.val (.ref a1), .val (.int (1 : Int32)), .val (.int (4 : Int32)), .val (.ref b2), .val (.int (1 : Int32))] [(.int (1 : Int32)), (.ref a1), (.int (1 : Int32)), (.ref b2)])) rfl rfl (hb hby d9_19) _ k)
  obtain ⟨_, _, ⟨T22, L22, kk22, nn22⟩, -, X22, ⟨Lc22, hQ22, lq22, yq22, zq22⟩, st22⟩ := Jvm.LawKit.callS X12 hx (y := (⟨"java/lang/StringUTF16", "putChar", "([BII)V"⟩ : MethodName)) hown (mvT hZ (hw _ (List.mem_of_getElem? (i := 52) rfl))) (mvT hZ (hw _ (List.mem_of_getElem? (i := 53) rfl))) (mvT hZ (hw _ (List.mem_of_getElem? (i := 36) rfl))) (mvT hZ (hw _ (List.mem_of_getElem? (i := 54) rfl))) (by decide) (backOf (W := 0) (rm12_1 l Z a0 hw [] b2 kb2 (own_b0 ee0) (own_b1 ee0) (0 : Int32) (0 : Int32) (0 : Int32) (0 : Int32) (0 : Int32) (0 : Int32) ee1 cs fv T12.heap n0 Z16 V12 g_b2 SC hcs SA SH SL SF hfv f15) hZ (hw _ (List.mem_of_getElem? (i := 54) rfl)) (hw _ (List.mem_of_getElem? (i := 36) rfl)) (by decide) (by decide)) (g := (mkF m 20 #[.val (.ref a1), .val (.int (1 : Int32)), .val (.int (4 : Int32)), .val (.ref b2), .val (.int (1 : Int32))] [(.int ee1), (.int (1 : Int32)), (.ref b2)])) rfl (by rw [hml]; rfl) (argsL := [(.ref b2), (.int (1 : Int32)), (.int ee1)]) (rest := []) (lenOf pd_8 rfl) rfl (by show 2 * 0 + _ ≤ _; exact Nat.le_of_eq rfl) (hb hby d9_20) (fun _ _ => ⟨rfl, rfl, (by decide : 1 + 0 ≤ _), (by decide : 8 + 0 ≤ _)⟩)
  dsimp only [Pt.U, Pt.locs, Pt.cells, Pt.slots] at X22 lq22 yq22 zq22 st22 hQ22
  subst lq22 yq22 zq22
  obtain ⟨rfl, Nq22, K22, V22⟩ := hQ22
  have N23 := Fr.app N13 Nq22
  have f24 := f14.keep K22 (ninS ne_a1_b2 nin0)
  have f25 := f15.keep K22 (allS g_b2 all0)
  have Z26 : n0 ≤ T22.heap.size := Nat.le_trans Z16 K22.1
  have KP27 : Keep h0 T22.heap [] := KP17.trans K22 (allS (Or.inr sz_b2) all0)
  have K28 : ∀ t, Steps p.tables e below (T22.setTop (mkF m 23 #[.val (.ref a1), .val (.int (1 : Int32)), .val (.int (4 : Int32)), .val (.ref b2), .val (.int (1 : Int32))] [])) t → Steps p.tables e below G t := fun t k => K21 t (st22 _ k)
  have K29 : ∀ t, Steps p.tables e below (T22.setTop (mkF m 19 #[.val (.ref a1), .val (.int (2 : Int32)), .val (.int (4 : Int32)), .val (.ref b2), .val (.int (2 : Int32))] [(.int (2 : Int32)), (.ref a1), (.int (2 : Int32)), (.ref b2)])) t → Steps p.tables e below G t := by
    intro t k
    refine K28 t ?_
    refine XS.iinc X22.here hx rfl (hb hby d9_23) rfl (l' := #[.val (.ref a1), .val (.int (2 : Int32)), .val (.int (4 : Int32)), .val (.ref b2), .val (.int (1 : Int32))]) rfl ?_
    refine XS.iinc X22.here hx rfl (hb hby d9_26) rfl (l' := #[.val (.ref a1), .val (.int (2 : Int32)), .val (.int (4 : Int32)), .val (.ref b2), .val (.int (2 : Int32))]) rfl ?_
    refine XS.goto X22.here hx rfl (pc0 := 29) (pc' := 8) rfl (hb hby d9_29) (by decide) (by decide) ?_
    refine XS.iload X22.here hx rfl (hb hby d9_8) rfl ?_
    refine XS.iloadN X22.here hx rfl (hb hby d9_10) rfl ?_
    refine XS.icmpNo X22.here hx rfl (hb hby d9_11) rfl (tlt (by decide)).2.1 ?_
    refine XS.aloadN X22.here hx rfl (hb hby d9_14) rfl rfl ?_
    refine XS.iload X22.here hx rfl (hb hby d9_15) rfl ?_
    refine XS.aloadN X22.here hx rfl (hb hby d9_17) rfl rfl ?_
    refine XS.iloadN X22.here hx rfl (hb hby d9_18) rfl ?_
    exact k
  obtain ⟨cl30, Ar30, qc30, S30, M30, Ha30, Ga30⟩ := id f24
  have hin30 : ¬ ((2 : Int32) < 0 ∨ cl30.slots.size ≤ ((2 : Int32)).toNatClampNeg) := inb_of S30 ⟨by decide, by decide⟩
  have hat30 : cl30.slots[((2 : Int32)).toNatClampNeg]? = some (.int ee2) := Ha30.at hin30 rfl
  have K31 : ∀ t, Steps p.tables e below (T22.setTop (mkF m 20 #[.val (.ref a1), .val (.int (2 : Int32)), .val (.int (4 : Int32)), .val (.ref b2), .val (.int (2 : Int32))] [(.int ee2), (.int (2 : Int32)), (.ref b2)])) t → Steps p.tables e below G t := fun t k => K29 t (X22.caload hx (j := (2 : Int32)) (v := (.int ee2)) Ar30.1 (State.isArrayOf_alike hZ.alike Ar30.2.1) Ar30.2.2 hin30 hat30 (g := (mkF m 19 #[.val (.ref a1), .val (.int (2 : Int32)), .val (.int (4 : Int32)), .val (.ref b2), .val (.int (2 : Int32))] [(.int (2 : Int32)), (.ref a1), (.int (2 : Int32)), (.ref b2)])) rfl rfl (hb hby d9_19) _ k)
  obtain ⟨_, _, ⟨T32, L32, kk32, nn32⟩, -, X32, ⟨Lc32, hQ32, lq32, yq32, zq32⟩, st32⟩ := Jvm.LawKit.callS X22 hx (y := (⟨"java/lang/StringUTF16", "putChar", "([BII)V"⟩ : MethodName)) hown (mvT hZ (hw _ (List.mem_of_getElem? (i := 52) rfl))) (mvT hZ (hw _ (List.mem_of_getElem? (i := 53) rfl))) (mvT hZ (hw _ (List.mem_of_getElem? (i := 36) rfl))) (mvT hZ (hw _ (List.mem_of_getElem? (i := 54) rfl))) (by decide) (backOf (W := 0) (rm12_2 l Z a0 hw [] b2 kb2 (own_b0 ee0) (own_b1 ee0) (own_b0 ee1) (own_b1 ee1) (0 : Int32) (0 : Int32) (0 : Int32) (0 : Int32) ee2 cs fv T22.heap n0 Z26 V22 g_b2 SC hcs SA SH SL SF hfv f25) hZ (hw _ (List.mem_of_getElem? (i := 54) rfl)) (hw _ (List.mem_of_getElem? (i := 36) rfl)) (by decide) (by decide)) (g := (mkF m 20 #[.val (.ref a1), .val (.int (2 : Int32)), .val (.int (4 : Int32)), .val (.ref b2), .val (.int (2 : Int32))] [(.int ee2), (.int (2 : Int32)), (.ref b2)])) rfl (by rw [hml]; rfl) (argsL := [(.ref b2), (.int (2 : Int32)), (.int ee2)]) (rest := []) (lenOf pd_8 rfl) rfl (by show 2 * 0 + _ ≤ _; exact Nat.le_of_eq rfl) (hb hby d9_20) (fun _ _ => ⟨rfl, rfl, (by decide : 1 + 0 ≤ _), (by decide : 8 + 0 ≤ _)⟩)
  dsimp only [Pt.U, Pt.locs, Pt.cells, Pt.slots] at X32 lq32 yq32 zq32 st32 hQ32
  subst lq32 yq32 zq32
  obtain ⟨rfl, Nq32, K32, V32⟩ := hQ32
  have N33 := Fr.app N23 Nq32
  have f34 := f24.keep K32 (ninS ne_a1_b2 nin0)
  have f35 := f25.keep K32 (allS g_b2 all0)
  have Z36 : n0 ≤ T32.heap.size := Nat.le_trans Z26 K32.1
  have KP37 : Keep h0 T32.heap [] := KP27.trans K32 (allS (Or.inr sz_b2) all0)
  have K38 : ∀ t, Steps p.tables e below (T32.setTop (mkF m 23 #[.val (.ref a1), .val (.int (2 : Int32)), .val (.int (4 : Int32)), .val (.ref b2), .val (.int (2 : Int32))] [])) t → Steps p.tables e below G t := fun t k => K31 t (st32 _ k)
  have K39 : ∀ t, Steps p.tables e below (T32.setTop (mkF m 19 #[.val (.ref a1), .val (.int (3 : Int32)), .val (.int (4 : Int32)), .val (.ref b2), .val (.int (3 : Int32))] [(.int (3 : Int32)), (.ref a1), (.int (3 : Int32)), (.ref b2)])) t → Steps p.tables e below G t := by
    intro t k
    refine K38 t ?_
    refine XS.iinc X32.here hx rfl (hb hby d9_23) rfl (l' := #[.val (.ref a1), .val (.int (3 : Int32)), .val (.int (4 : Int32)), .val (.ref b2), .val (.int (2 : Int32))]) rfl ?_
    refine XS.iinc X32.here hx rfl (hb hby d9_26) rfl (l' := #[.val (.ref a1), .val (.int (3 : Int32)), .val (.int (4 : Int32)), .val (.ref b2), .val (.int (3 : Int32))]) rfl ?_
    refine XS.goto X32.here hx rfl (pc0 := 29) (pc' := 8) rfl (hb hby d9_29) (by decide) (by decide) ?_
    refine XS.iload X32.here hx rfl (hb hby d9_8) rfl ?_
    refine XS.iloadN X32.here hx rfl (hb hby d9_10) rfl ?_
    refine XS.icmpNo X32.here hx rfl (hb hby d9_11) rfl (tlt (by decide)).2.1 ?_
    refine XS.aloadN X32.here hx rfl (hb hby d9_14) rfl rfl ?_
    refine XS.iload X32.here hx rfl (hb hby d9_15) rfl ?_
    refine XS.aloadN X32.here hx rfl (hb hby d9_17) rfl rfl ?_
    refine XS.iloadN X32.here hx rfl (hb hby d9_18) rfl ?_
    exact k
  obtain ⟨cl40, Ar40, qc40, S40, M40, Ha40, Ga40⟩ := id f34
  have hin40 : ¬ ((3 : Int32) < 0 ∨ cl40.slots.size ≤ ((3 : Int32)).toNatClampNeg) := inb_of S40 ⟨by decide, by decide⟩
  have hat40 : cl40.slots[((3 : Int32)).toNatClampNeg]? = some (.int ee3) := Ha40.at hin40 rfl
  have K41 : ∀ t, Steps p.tables e below (T32.setTop (mkF m 20 #[.val (.ref a1), .val (.int (3 : Int32)), .val (.int (4 : Int32)), .val (.ref b2), .val (.int (3 : Int32))] [(.int ee3), (.int (3 : Int32)), (.ref b2)])) t → Steps p.tables e below G t := fun t k => K39 t (X32.caload hx (j := (3 : Int32)) (v := (.int ee3)) Ar40.1 (State.isArrayOf_alike hZ.alike Ar40.2.1) Ar40.2.2 hin40 hat40 (g := (mkF m 19 #[.val (.ref a1), .val (.int (3 : Int32)), .val (.int (4 : Int32)), .val (.ref b2), .val (.int (3 : Int32))] [(.int (3 : Int32)), (.ref a1), (.int (3 : Int32)), (.ref b2)])) rfl rfl (hb hby d9_19) _ k)
  obtain ⟨_, _, ⟨T42, L42, kk42, nn42⟩, -, X42, ⟨Lc42, hQ42, lq42, yq42, zq42⟩, st42⟩ := Jvm.LawKit.callS X32 hx (y := (⟨"java/lang/StringUTF16", "putChar", "([BII)V"⟩ : MethodName)) hown (mvT hZ (hw _ (List.mem_of_getElem? (i := 52) rfl))) (mvT hZ (hw _ (List.mem_of_getElem? (i := 53) rfl))) (mvT hZ (hw _ (List.mem_of_getElem? (i := 36) rfl))) (mvT hZ (hw _ (List.mem_of_getElem? (i := 54) rfl))) (by decide) (backOf (W := 0) (rm12_3 l Z a0 hw [] b2 kb2 (own_b0 ee0) (own_b1 ee0) (own_b0 ee1) (own_b1 ee1) (own_b0 ee2) (own_b1 ee2) (0 : Int32) (0 : Int32) ee3 cs fv T32.heap n0 Z36 V32 g_b2 SC hcs SA SH SL SF hfv f35) hZ (hw _ (List.mem_of_getElem? (i := 54) rfl)) (hw _ (List.mem_of_getElem? (i := 36) rfl)) (by decide) (by decide)) (g := (mkF m 20 #[.val (.ref a1), .val (.int (3 : Int32)), .val (.int (4 : Int32)), .val (.ref b2), .val (.int (3 : Int32))] [(.int ee3), (.int (3 : Int32)), (.ref b2)])) rfl (by rw [hml]; rfl) (argsL := [(.ref b2), (.int (3 : Int32)), (.int ee3)]) (rest := []) (lenOf pd_8 rfl) rfl (by show 2 * 0 + _ ≤ _; exact Nat.le_of_eq rfl) (hb hby d9_20) (fun _ _ => ⟨rfl, rfl, (by decide : 1 + 0 ≤ _), (by decide : 8 + 0 ≤ _)⟩)
  dsimp only [Pt.U, Pt.locs, Pt.cells, Pt.slots] at X42 lq42 yq42 zq42 st42 hQ42
  subst lq42 yq42 zq42
  obtain ⟨rfl, Nq42, K42, V42⟩ := hQ42
  have N43 := Fr.app N33 Nq42
  have f44 := f34.keep K42 (ninS ne_a1_b2 nin0)
  have f45 := f35.keep K42 (allS g_b2 all0)
  have Z46 : n0 ≤ T42.heap.size := Nat.le_trans Z36 K42.1
  have KP47 : Keep h0 T42.heap [] := KP37.trans K42 (allS (Or.inr sz_b2) all0)
  have K48 : ∀ t, Steps p.tables e below (T42.setTop (mkF m 23 #[.val (.ref a1), .val (.int (3 : Int32)), .val (.int (4 : Int32)), .val (.ref b2), .val (.int (3 : Int32))] [])) t → Steps p.tables e below G t := fun t k => K41 t (st42 _ k)
  obtain ⟨fs, hr, hrun, hended, hW, hsame⟩ := X42.leave (v := some (.ref b2)) (fun h => by rw [Bd.returns] at h; cases h)
  have KF := K48
  rw [hG] at KF
  refine ⟨_, _, KF _ ?_, hrun, hended, _, _, rfl, ?_, ⟨_, rfl⟩, hW, hsame.mono (by decide) (by decide)⟩
  · refine XS.iinc X42.here hx rfl (hb hby d9_23) rfl (l' := #[.val (.ref a1), .val (.int (4 : Int32)), .val (.int (4 : Int32)), .val (.ref b2), .val (.int (3 : Int32))]) rfl ?_
    refine XS.iinc X42.here hx rfl (hb hby d9_26) rfl (l' := #[.val (.ref a1), .val (.int (4 : Int32)), .val (.int (4 : Int32)), .val (.ref b2), .val (.int (4 : Int32))]) rfl ?_
    refine XS.goto X42.here hx rfl (pc0 := 29) (pc' := 8) rfl (hb hby d9_29) (by decide) (by decide) ?_
    refine XS.iload X42.here hx rfl (hb hby d9_8) rfl ?_
    refine XS.iloadN X42.here hx rfl (hb hby d9_10) rfl ?_
    refine XS.icmpYes X42.here hx rfl (pc0 := 11) (pc' := 32) rfl (hb hby d9_11) rfl (flt (by decide)).2.1 (by decide) (by decide) ?_
    refine XS.aloadN X42.here hx rfl (hb hby d9_32) rfl rfl ?_
    show Steps p.tables e below (T42.setTop (mkF m 33 #[.val (.ref a1), .val (.int (4 : Int32)), .val (.int (4 : Int32)), .val (.ref b2), .val (.int (4 : Int32))] [(.ref b2)])) _
    exact own_retA X42 hx Bd.returns rfl rfl rfl (hb hby d9_33) hr
  · show Q9 Z ee0 ee1 ee2 ee3 h0 n0 _ T42.heap _
    exact ⟨_, _, rfl, N43, KP47, sz_b2, V42⟩
def Q8 (Z : State) (a2 : Addr) (k2 : ClassId) (ee0 ee1 ee2 ee3 : Int32) (h0 : Heap) (n0 : Nat) (v : Option Value) (h : Heap) (L : List Loc) : Prop := ∃ r : Int32, v = some (.int r) ∧ Fr n0 L ∧ Keep h0 h [a2] ∧ ((r = 4 ∧ (¬ (255 : Int32) < ee0 ∧ ¬ (255 : Int32) < ee1 ∧ ¬ (255 : Int32) < ee2 ∧ ¬ (255 : Int32) < ee3) ∧ Arv Z h a2 k2 .byte (4 : Int32) [(.int (own_lb ee0)), (.int (own_lb ee1)), (.int (own_lb ee2)), (.int (own_lb ee3))] (Value.int (0 : Int32))) ∨ (r = 0 ∧ (255 : Int32) < ee0) ∨ (r = 1 ∧ (255 : Int32) < ee1) ∨ (r = 2 ∧ (255 : Int32) < ee2) ∨ (r = 3 ∧ (255 : Int32) < ee3))
theorem d8_0 : decode jdk_52_method_21_code 0 = .ok (.iconst 0, 1) := by decide +kernel
theorem d8_1 : decode jdk_52_method_21_code 1 = .ok (.istore 5, 2) := by decide +kernel
theorem d8_3 : decode jdk_52_method_21_code 3 = .ok (.iload 5, 2) := by decide +kernel
theorem d8_5 : decode jdk_52_method_21_code 5 = .ok (.iload 4, 2) := by decide +kernel
theorem d8_7 : decode jdk_52_method_21_code 7 = .ok (.if_icmp .ge 37, 3) := by decide +kernel
theorem d8_10 : decode jdk_52_method_21_code 10 = .ok (.aload_n 0, 1) := by decide +kernel
theorem d8_11 : decode jdk_52_method_21_code 11 = .ok (.iload_n 1, 1) := by decide +kernel
theorem d8_12 : decode jdk_52_method_21_code 12 = .ok (.caload, 1) := by decide +kernel
theorem d8_13 : decode jdk_52_method_21_code 13 = .ok (.istore 6, 2) := by decide +kernel
theorem d8_15 : decode jdk_52_method_21_code 15 = .ok (.iload 6, 2) := by decide +kernel
theorem d8_17 : decode jdk_52_method_21_code 17 = .ok (.sipush 255, 3) := by decide +kernel
theorem d8_20 : decode jdk_52_method_21_code 20 = .ok (.if_icmp .le 6, 3) := by decide +kernel
theorem d8_23 : decode jdk_52_method_21_code 23 = .ok (.iload 5, 2) := by decide +kernel
theorem d8_25 : decode jdk_52_method_21_code 25 = .ok (.ireturn, 1) := by decide +kernel
theorem d8_26 : decode jdk_52_method_21_code 26 = .ok (.aload_n 2, 1) := by decide +kernel
theorem d8_27 : decode jdk_52_method_21_code 27 = .ok (.iload_n 3, 1) := by decide +kernel
theorem d8_28 : decode jdk_52_method_21_code 28 = .ok (.iload 6, 2) := by decide +kernel
theorem d8_30 : decode jdk_52_method_21_code 30 = .ok (.i2b, 1) := by decide +kernel
theorem d8_31 : decode jdk_52_method_21_code 31 = .ok (.bastore, 1) := by decide +kernel
theorem d8_32 : decode jdk_52_method_21_code 32 = .ok (.iinc 1 1, 3) := by decide +kernel
theorem d8_35 : decode jdk_52_method_21_code 35 = .ok (.iinc 3 1, 3) := by decide +kernel
theorem d8_38 : decode jdk_52_method_21_code 38 = .ok (.iinc 5 1, 3) := by decide +kernel
theorem d8_41 : decode jdk_52_method_21_code 41 = .ok (.goto (-38), 3) := by decide +kernel
theorem d8_44 : decode jdk_52_method_21_code 44 = .ok (.iload 4, 2) := by decide +kernel
theorem d8_46 : decode jdk_52_method_21_code 46 = .ok (.ireturn, 1) := by decide +kernel
theorem ef_rm8 (m : MethodId) (x0 : Addr) (x2 : Addr) : entryFrame m #[(.ref x0), (.int (0 : Int32)), (.ref x2), (.int (0 : Int32)), (.int (4 : Int32))] 7 = mkF m 0 #[.val (.ref x0), .val (.int (0 : Int32)), .val (.ref x2), .val (.int (0 : Int32)), .val (.int (4 : Int32)), .unset, .unset] [] := by first | (simp [entryFrame, mkF, argsToLocals, Value.category]; done) | rfl
set_option maxRecDepth 65536 in
set_option maxHeartbeats 40000000 in
theorem rm8 (l : Launch) (Z : State) (a0 : Array Value) (hw : ∀ d ∈ tables_1, d.before a0 Z = true) (ws : List Jvm.Cond) (a1 a2 : Addr) (k1 k2 : ClassId) (ee0 ee1 ee2 ee3 : Int32) (h0 : Heap) (n0 : Nat) (Z0 : n0 ≤ h0.size) (V1 : Arv Z h0 a1 k1 .char (4 : Int32) [(.int ee0), (.int ee1), (.int ee2), (.int ee3)] (Value.int (0 : Int32))) (V2 : Arv Z h0 a2 k2 .byte (4 : Int32) [(.int (0 : Int32)), (.int (0 : Int32)), (.int (0 : Int32)), (.int (0 : Int32))] (Value.int (0 : Int32))) (ne12 : a1 ≠ a2) (g2 : n0 ≤ a2) :
    MetFree l (⟨"java/lang/StringUTF16", "compress", "([CI[BII)I"⟩ : MethodName) (head1 (Jvm.Cond.code (⟨"java/lang/StringUTF16", "compress", "([CI[BII)I"⟩ : MethodName) jdk_52_method_21_code 7 (some .int) :: ws) ({ frames := 0, cells := 0, slots := 0, locals := 0 } : Room)) (fun a U => a = #[(.ref a1), (.int (0 : Int32)), (.ref a2), (.int (0 : Int32)), (.int (4 : Int32))] ∧ Z.Warmed39 U.vm ∧ U.heap = h0) (fun _ _ _ _ _ => True) (fun _ U o U' => ∃ v L, o = .returned v ∧ Q8 Z a2 k2 ee0 ee1 ee2 ee3 h0 n0 v U'.heap L ∧ FrameEnd U o U' L ({ frames := 0, cells := 0, slots := 0, locals := 0 } : Room).cells ({ frames := 0, cells := 0, slots := 0, locals := 0 } : Room).slots) := by
  refine MetFree.of_bodySF (plainFor_of_name pn_java_lang_StringUTF16) hisR ?_
  intro p e s m args below meth c s₁ Bd hml0 hP hK
  obtain ⟨rfl, hZ, hh⟩ := hP
  have hx := Bd.exec
  have hby := Bd.bytes
  have hml : c.maxLocals = 7 := hml0
  have hown : s.vm.findClass "java/lang/StringUTF16" = some m.cls := findClass_of_methodNamed Bd.named
  have hnm := (name_of_methodNamed Bd.named Bd.method).1
  have X0 : Stand p l e ({ frames := 0, cells := 0, slots := 0, locals := 0 } : Room) s m #[(.ref a1), (.int (0 : Int32)), (.ref a2), (.int (0 : Int32)), (.int (4 : Int32))] below meth c s₁ [] 0 0 := Stand.of_body Bd
  have e0 : s₁.heap = h0 := by rw [← hh, Bd.state]; rfl
  have N0 := Fr.nil n0
  have KP0 : Keep h0 h0 [a2] := Keep.refl h0 _
  obtain ⟨G, hG⟩ : ∃ G : State, G = s₁.setTop (entryFrame m #[(.ref a1), (.int (0 : Int32)), (.ref a2), (.int (0 : Int32)), (.int (4 : Int32))] 7) := ⟨_, rfl⟩
  have pre0 : ∀ t, Steps p.tables e below (s₁.setTop (mkF m 0 #[.val (.ref a1), .val (.int (0 : Int32)), .val (.ref a2), .val (.int (0 : Int32)), .val (.int (4 : Int32)), .unset, .unset] [])) t → Steps p.tables e below G t := fun t k => hG ▸ castTop (ef_rm8 m a1 a2) k
  have K1 : ∀ t, Steps p.tables e below (s₁.setTop (mkF m 12 #[.val (.ref a1), .val (.int (0 : Int32)), .val (.ref a2), .val (.int (0 : Int32)), .val (.int (4 : Int32)), .val (.int (0 : Int32)), .unset] [(.int (0 : Int32)), (.ref a1)])) t → Steps p.tables e below G t := by
    intro t k
    refine pre0 t ?_
    refine XS.iconst X0.here hx rfl (hb hby d8_0) ?_
    refine XS.istore X0.here hx rfl (hb hby d8_1) rfl (l' := #[.val (.ref a1), .val (.int (0 : Int32)), .val (.ref a2), .val (.int (0 : Int32)), .val (.int (4 : Int32)), .val (.int (0 : Int32)), .unset]) rfl ?_
    refine XS.iload X0.here hx rfl (hb hby d8_3) rfl ?_
    refine XS.iload X0.here hx rfl (hb hby d8_5) rfl ?_
    refine XS.icmpNo X0.here hx rfl (hb hby d8_7) rfl (tlt (by decide)).2.1 ?_
    refine XS.aloadN X0.here hx rfl (hb hby d8_10) rfl rfl ?_
    refine XS.iloadN X0.here hx rfl (hb hby d8_11) rfl ?_
    exact k
  obtain ⟨cl2, Ar2, qc2, S2, M2, Ha2, Ga2⟩ := id V1
  have hin2 : ¬ ((0 : Int32) < 0 ∨ cl2.slots.size ≤ ((0 : Int32)).toNatClampNeg) := inb_of S2 ⟨by decide, by decide⟩
  have hat2 : cl2.slots[((0 : Int32)).toNatClampNeg]? = some (.int ee0) := Ha2.at hin2 rfl
  have K3 : ∀ t, Steps p.tables e below (s₁.setTop (mkF m 13 #[.val (.ref a1), .val (.int (0 : Int32)), .val (.ref a2), .val (.int (0 : Int32)), .val (.int (4 : Int32)), .val (.int (0 : Int32)), .unset] [(.int ee0)])) t → Steps p.tables e below G t := fun t k => K1 t (X0.caload hx (j := (0 : Int32)) (v := (.int ee0)) (by rw [e0]; exact Ar2.1) (State.isArrayOf_alike hZ.alike Ar2.2.1) Ar2.2.2 hin2 hat2 (g := (mkF m 12 #[.val (.ref a1), .val (.int (0 : Int32)), .val (.ref a2), .val (.int (0 : Int32)), .val (.int (4 : Int32)), .val (.int (0 : Int32)), .unset] [(.int (0 : Int32)), (.ref a1)])) rfl rfl (hb hby d8_12) _ k)
  have K4 : ∀ t, Steps p.tables e below (s₁.setTop (mkF m 20 #[.val (.ref a1), .val (.int (0 : Int32)), .val (.ref a2), .val (.int (0 : Int32)), .val (.int (4 : Int32)), .val (.int (0 : Int32)), .val (.int ee0)] [(.int (255 : Int32)), (.int ee0)])) t → Steps p.tables e below G t := by
    intro t k
    refine K3 t ?_
    refine XS.istore X0.here hx rfl (hb hby d8_13) rfl (l' := #[.val (.ref a1), .val (.int (0 : Int32)), .val (.ref a2), .val (.int (0 : Int32)), .val (.int (4 : Int32)), .val (.int (0 : Int32)), .val (.int ee0)]) rfl ?_
    refine XS.iload X0.here hx rfl (hb hby d8_15) rfl ?_
    refine XS.sipush X0.here hx rfl (hb hby d8_17) ?_
    exact k
  by_cases hc5 : (255 : Int32) < ee0
  · obtain ⟨fs, hr, hrun, hended, hW, hsame⟩ := X0.leave (v := some (.int (0 : Int32))) (fun h => by rw [Bd.returns] at h; cases h)
    have KF := K4
    rw [hG] at KF
    refine ⟨_, _, KF _ ?_, hrun, hended, _, _, rfl, ?_, ⟨_, rfl⟩, hW, hsame.mono (by decide) (by decide)⟩
    · refine XS.icmpNo X0.here hx rfl (hb hby d8_20) rfl (tlt hc5).2.2.2 ?_
      refine XS.iload X0.here hx rfl (hb hby d8_23) rfl ?_
      show Steps p.tables e below (s₁.setTop (mkF m 25 #[.val (.ref a1), .val (.int (0 : Int32)), .val (.ref a2), .val (.int (0 : Int32)), .val (.int (4 : Int32)), .val (.int (0 : Int32)), .val (.int ee0)] [(.int (0 : Int32))])) _
      exact own_retI X0 hx Bd.returns (hb hby d8_25) hr
    · show Q8 Z a2 k2 ee0 ee1 ee2 ee3 h0 n0 _ s₁.heap _
      rw [e0]
      exact ⟨_, rfl, N0, KP0, Or.inr (Or.inl ⟨rfl, hc5⟩)⟩
  · have K6 : ∀ t, Steps p.tables e below (s₁.setTop (mkF m 31 #[.val (.ref a1), .val (.int (0 : Int32)), .val (.ref a2), .val (.int (0 : Int32)), .val (.int (4 : Int32)), .val (.int (0 : Int32)), .val (.int ee0)] [(.int (ee0.toInt8.toInt32)), (.int (0 : Int32)), (.ref a2)])) t → Steps p.tables e below G t := by
      intro t k
      refine K4 t ?_
      refine XS.icmpYes X0.here hx rfl (pc0 := 20) (pc' := 26) rfl (hb hby d8_20) rfl (flt hc5).2.2.2 (by decide) (by decide) ?_
      refine XS.aloadN X0.here hx rfl (hb hby d8_26) rfl rfl ?_
      refine XS.iloadN X0.here hx rfl (hb hby d8_27) rfl ?_
      refine XS.iload X0.here hx rfl (hb hby d8_28) rfl ?_
      refine XS.i2b X0.here hx rfl (hb hby d8_30) rfl ?_
      exact k
    obtain ⟨cl7, Ar7, qc7, S7, M7, Ha7, Ga7⟩ := id V2
    have hin7 : ¬ ((0 : Int32) < 0 ∨ cl7.slots.size ≤ ((0 : Int32)).toNatClampNeg) := inb_of S7 ⟨by decide, by decide⟩
    obtain ⟨T7, h7, X7, e7, W7, st7⟩ := stB X0 hx hZ e0 Ar7 (j := (0 : Int32)) hin7 (g := (mkF m 31 #[.val (.ref a1), .val (.int (0 : Int32)), .val (.ref a2), .val (.int (0 : Int32)), .val (.int (4 : Int32)), .val (.int (0 : Int32)), .val (.int ee0)] [(.int (ee0.toInt8.toInt32)), (.int (0 : Int32)), (.ref a2)])) rfl rfl (hb hby d8_31)
    have V7 : Arv Z h7 a2 k2 .byte (4 : Int32) [(.int ((ee0.toInt8.toInt32).toInt8.toInt32)), (.int (0 : Int32)), (.int (0 : Int32)), (.int (0 : Int32))] (Value.int (0 : Int32)) := Arv.set Ar7 qc7 S7 M7 Ha7 Ga7 (fits_nar_byte _) W7 0 rfl (Nat.le_of_ble_eq_true rfl)
    have K8 : ∀ t, Steps p.tables e below (T7.setTop (mkF m 32 #[.val (.ref a1), .val (.int (0 : Int32)), .val (.ref a2), .val (.int (0 : Int32)), .val (.int (4 : Int32)), .val (.int (0 : Int32)), .val (.int ee0)] [])) t → Steps p.tables e below G t := fun t k => K6 t (st7 t k)
    have f9 := V1.other W7 ne12
    have Z10 : n0 ≤ h7.size := Nat.le_trans Z0 (Keep.of_wr W7).1
    have KP11 : Keep h0 h7 [a2] := KP0.wr W7 (Or.inl (List.mem_of_getElem? (i := 0) rfl))
    have N12 := Fr.snoc X7 N0 g2
    have K13 : ∀ t, Steps p.tables e below (T7.setTop (mkF m 12 #[.val (.ref a1), .val (.int (1 : Int32)), .val (.ref a2), .val (.int (1 : Int32)), .val (.int (4 : Int32)), .val (.int (1 : Int32)), .val (.int ee0)] [(.int (1 : Int32)), (.ref a1)])) t → Steps p.tables e below G t := by
      intro t k
      refine K8 t ?_
      refine XS.iinc X7.here hx rfl (hb hby d8_32) rfl (l' := #[.val (.ref a1), .val (.int (1 : Int32)), .val (.ref a2), .val (.int (0 : Int32)), .val (.int (4 : Int32)), .val (.int (0 : Int32)), .val (.int ee0)]) rfl ?_
      refine XS.iinc X7.here hx rfl (hb hby d8_35) rfl (l' := #[.val (.ref a1), .val (.int (1 : Int32)), .val (.ref a2), .val (.int (1 : Int32)), .val (.int (4 : Int32)), .val (.int (0 : Int32)), .val (.int ee0)]) rfl ?_
      refine XS.iinc X7.here hx rfl (hb hby d8_38) rfl (l' := #[.val (.ref a1), .val (.int (1 : Int32)), .val (.ref a2), .val (.int (1 : Int32)), .val (.int (4 : Int32)), .val (.int (1 : Int32)), .val (.int ee0)]) rfl ?_
      refine XS.goto X7.here hx rfl (pc0 := 41) (pc' := 3) rfl (hb hby d8_41) (by decide) (by decide) ?_
      refine XS.iload X7.here hx rfl (hb hby d8_3) rfl ?_
      refine XS.iload X7.here hx rfl (hb hby d8_5) rfl ?_
      refine XS.icmpNo X7.here hx rfl (hb hby d8_7) rfl (tlt (by decide)).2.1 ?_
      refine XS.aloadN X7.here hx rfl (hb hby d8_10) rfl rfl ?_
      refine XS.iloadN X7.here hx rfl (hb hby d8_11) rfl ?_
      exact k
    obtain ⟨cl14, Ar14, qc14, S14, M14, Ha14, Ga14⟩ := id f9
    have hin14 : ¬ ((1 : Int32) < 0 ∨ cl14.slots.size ≤ ((1 : Int32)).toNatClampNeg) := inb_of S14 ⟨by decide, by decide⟩
    have hat14 : cl14.slots[((1 : Int32)).toNatClampNeg]? = some (.int ee1) := Ha14.at hin14 rfl
    have K15 : ∀ t, Steps p.tables e below (T7.setTop (mkF m 13 #[.val (.ref a1), .val (.int (1 : Int32)), .val (.ref a2), .val (.int (1 : Int32)), .val (.int (4 : Int32)), .val (.int (1 : Int32)), .val (.int ee0)] [(.int ee1)])) t → Steps p.tables e below G t := fun t k => K13 t (X7.caload hx (j := (1 : Int32)) (v := (.int ee1)) (by rw [e7]; exact Ar14.1) (State.isArrayOf_alike hZ.alike Ar14.2.1) Ar14.2.2 hin14 hat14 (g := (mkF m 12 #[.val (.ref a1), .val (.int (1 : Int32)), .val (.ref a2), .val (.int (1 : Int32)), .val (.int (4 : Int32)), .val (.int (1 : Int32)), .val (.int ee0)] [(.int (1 : Int32)), (.ref a1)])) rfl rfl (hb hby d8_12) _ k)
    have K16 : ∀ t, Steps p.tables e below (T7.setTop (mkF m 20 #[.val (.ref a1), .val (.int (1 : Int32)), .val (.ref a2), .val (.int (1 : Int32)), .val (.int (4 : Int32)), .val (.int (1 : Int32)), .val (.int ee1)] [(.int (255 : Int32)), (.int ee1)])) t → Steps p.tables e below G t := by
      intro t k
      refine K15 t ?_
      refine XS.istore X7.here hx rfl (hb hby d8_13) rfl (l' := #[.val (.ref a1), .val (.int (1 : Int32)), .val (.ref a2), .val (.int (1 : Int32)), .val (.int (4 : Int32)), .val (.int (1 : Int32)), .val (.int ee1)]) rfl ?_
      refine XS.iload X7.here hx rfl (hb hby d8_15) rfl ?_
      refine XS.sipush X7.here hx rfl (hb hby d8_17) ?_
      exact k
    by_cases hc17 : (255 : Int32) < ee1
    · obtain ⟨fs, hr, hrun, hended, hW, hsame⟩ := X7.leave (v := some (.int (1 : Int32))) (fun h => by rw [Bd.returns] at h; cases h)
      have KF := K16
      rw [hG] at KF
      refine ⟨_, _, KF _ ?_, hrun, hended, _, _, rfl, ?_, ⟨_, rfl⟩, hW, hsame.mono (by decide) (by decide)⟩
      · refine XS.icmpNo X7.here hx rfl (hb hby d8_20) rfl (tlt hc17).2.2.2 ?_
        refine XS.iload X7.here hx rfl (hb hby d8_23) rfl ?_
        show Steps p.tables e below (T7.setTop (mkF m 25 #[.val (.ref a1), .val (.int (1 : Int32)), .val (.ref a2), .val (.int (1 : Int32)), .val (.int (4 : Int32)), .val (.int (1 : Int32)), .val (.int ee1)] [(.int (1 : Int32))])) _
        exact own_retI X7 hx Bd.returns (hb hby d8_25) hr
      · show Q8 Z a2 k2 ee0 ee1 ee2 ee3 h0 n0 _ T7.heap _
        rw [e7]
        exact ⟨_, rfl, N12, KP11, Or.inr (Or.inr (Or.inl ⟨rfl, hc17⟩))⟩
    · have K18 : ∀ t, Steps p.tables e below (T7.setTop (mkF m 31 #[.val (.ref a1), .val (.int (1 : Int32)), .val (.ref a2), .val (.int (1 : Int32)), .val (.int (4 : Int32)), .val (.int (1 : Int32)), .val (.int ee1)] [(.int (ee1.toInt8.toInt32)), (.int (1 : Int32)), (.ref a2)])) t → Steps p.tables e below G t := by
        intro t k
        refine K16 t ?_
        refine XS.icmpYes X7.here hx rfl (pc0 := 20) (pc' := 26) rfl (hb hby d8_20) rfl (flt hc17).2.2.2 (by decide) (by decide) ?_
        refine XS.aloadN X7.here hx rfl (hb hby d8_26) rfl rfl ?_
        refine XS.iloadN X7.here hx rfl (hb hby d8_27) rfl ?_
        refine XS.iload X7.here hx rfl (hb hby d8_28) rfl ?_
        refine XS.i2b X7.here hx rfl (hb hby d8_30) rfl ?_
        exact k
      obtain ⟨cl19, Ar19, qc19, S19, M19, Ha19, Ga19⟩ := id V7
      have hin19 : ¬ ((1 : Int32) < 0 ∨ cl19.slots.size ≤ ((1 : Int32)).toNatClampNeg) := inb_of S19 ⟨by decide, by decide⟩
      obtain ⟨T19, h19, X19, e19, W19, st19⟩ := stB X7 hx hZ e7 Ar19 (j := (1 : Int32)) hin19 (g := (mkF m 31 #[.val (.ref a1), .val (.int (1 : Int32)), .val (.ref a2), .val (.int (1 : Int32)), .val (.int (4 : Int32)), .val (.int (1 : Int32)), .val (.int ee1)] [(.int (ee1.toInt8.toInt32)), (.int (1 : Int32)), (.ref a2)])) rfl rfl (hb hby d8_31)
      have V19 : Arv Z h19 a2 k2 .byte (4 : Int32) [(.int ((ee0.toInt8.toInt32).toInt8.toInt32)), (.int ((ee1.toInt8.toInt32).toInt8.toInt32)), (.int (0 : Int32)), (.int (0 : Int32))] (Value.int (0 : Int32)) := Arv.set Ar19 qc19 S19 M19 Ha19 Ga19 (fits_nar_byte _) W19 1 rfl (Nat.le_of_ble_eq_true rfl)
      have K20 : ∀ t, Steps p.tables e below (T19.setTop (mkF m 32 #[.val (.ref a1), .val (.int (1 : Int32)), .val (.ref a2), .val (.int (1 : Int32)), .val (.int (4 : Int32)), .val (.int (1 : Int32)), .val (.int ee1)] [])) t → Steps p.tables e below G t := fun t k => K18 t (st19 t k)
      have f21 := f9.other W19 ne12
      have Z22 : n0 ≤ h19.size := Nat.le_trans Z10 (Keep.of_wr W19).1
      have KP23 : Keep h0 h19 [a2] := KP11.wr W19 (Or.inl (List.mem_of_getElem? (i := 0) rfl))
      have N24 := Fr.snoc X19 N12 g2
      have K25 : ∀ t, Steps p.tables e below (T19.setTop (mkF m 12 #[.val (.ref a1), .val (.int (2 : Int32)), .val (.ref a2), .val (.int (2 : Int32)), .val (.int (4 : Int32)), .val (.int (2 : Int32)), .val (.int ee1)] [(.int (2 : Int32)), (.ref a1)])) t → Steps p.tables e below G t := by
        intro t k
        refine K20 t ?_
        refine XS.iinc X19.here hx rfl (hb hby d8_32) rfl (l' := #[.val (.ref a1), .val (.int (2 : Int32)), .val (.ref a2), .val (.int (1 : Int32)), .val (.int (4 : Int32)), .val (.int (1 : Int32)), .val (.int ee1)]) rfl ?_
        refine XS.iinc X19.here hx rfl (hb hby d8_35) rfl (l' := #[.val (.ref a1), .val (.int (2 : Int32)), .val (.ref a2), .val (.int (2 : Int32)), .val (.int (4 : Int32)), .val (.int (1 : Int32)), .val (.int ee1)]) rfl ?_
        refine XS.iinc X19.here hx rfl (hb hby d8_38) rfl (l' := #[.val (.ref a1), .val (.int (2 : Int32)), .val (.ref a2), .val (.int (2 : Int32)), .val (.int (4 : Int32)), .val (.int (2 : Int32)), .val (.int ee1)]) rfl ?_
        refine XS.goto X19.here hx rfl (pc0 := 41) (pc' := 3) rfl (hb hby d8_41) (by decide) (by decide) ?_
        refine XS.iload X19.here hx rfl (hb hby d8_3) rfl ?_
        refine XS.iload X19.here hx rfl (hb hby d8_5) rfl ?_
        refine XS.icmpNo X19.here hx rfl (hb hby d8_7) rfl (tlt (by decide)).2.1 ?_
        refine XS.aloadN X19.here hx rfl (hb hby d8_10) rfl rfl ?_
        refine XS.iloadN X19.here hx rfl (hb hby d8_11) rfl ?_
        exact k
      obtain ⟨cl26, Ar26, qc26, S26, M26, Ha26, Ga26⟩ := id f21
      have hin26 : ¬ ((2 : Int32) < 0 ∨ cl26.slots.size ≤ ((2 : Int32)).toNatClampNeg) := inb_of S26 ⟨by decide, by decide⟩
      have hat26 : cl26.slots[((2 : Int32)).toNatClampNeg]? = some (.int ee2) := Ha26.at hin26 rfl
      have K27 : ∀ t, Steps p.tables e below (T19.setTop (mkF m 13 #[.val (.ref a1), .val (.int (2 : Int32)), .val (.ref a2), .val (.int (2 : Int32)), .val (.int (4 : Int32)), .val (.int (2 : Int32)), .val (.int ee1)] [(.int ee2)])) t → Steps p.tables e below G t := fun t k => K25 t (X19.caload hx (j := (2 : Int32)) (v := (.int ee2)) (by rw [e19]; exact Ar26.1) (State.isArrayOf_alike hZ.alike Ar26.2.1) Ar26.2.2 hin26 hat26 (g := (mkF m 12 #[.val (.ref a1), .val (.int (2 : Int32)), .val (.ref a2), .val (.int (2 : Int32)), .val (.int (4 : Int32)), .val (.int (2 : Int32)), .val (.int ee1)] [(.int (2 : Int32)), (.ref a1)])) rfl rfl (hb hby d8_12) _ k)
      have K28 : ∀ t, Steps p.tables e below (T19.setTop (mkF m 20 #[.val (.ref a1), .val (.int (2 : Int32)), .val (.ref a2), .val (.int (2 : Int32)), .val (.int (4 : Int32)), .val (.int (2 : Int32)), .val (.int ee2)] [(.int (255 : Int32)), (.int ee2)])) t → Steps p.tables e below G t := by
        intro t k
        refine K27 t ?_
        refine XS.istore X19.here hx rfl (hb hby d8_13) rfl (l' := #[.val (.ref a1), .val (.int (2 : Int32)), .val (.ref a2), .val (.int (2 : Int32)), .val (.int (4 : Int32)), .val (.int (2 : Int32)), .val (.int ee2)]) rfl ?_
        refine XS.iload X19.here hx rfl (hb hby d8_15) rfl ?_
        refine XS.sipush X19.here hx rfl (hb hby d8_17) ?_
        exact k
      by_cases hc29 : (255 : Int32) < ee2
      · obtain ⟨fs, hr, hrun, hended, hW, hsame⟩ := X19.leave (v := some (.int (2 : Int32))) (fun h => by rw [Bd.returns] at h; cases h)
        have KF := K28
        rw [hG] at KF
        refine ⟨_, _, KF _ ?_, hrun, hended, _, _, rfl, ?_, ⟨_, rfl⟩, hW, hsame.mono (by decide) (by decide)⟩
        · refine XS.icmpNo X19.here hx rfl (hb hby d8_20) rfl (tlt hc29).2.2.2 ?_
          refine XS.iload X19.here hx rfl (hb hby d8_23) rfl ?_
          show Steps p.tables e below (T19.setTop (mkF m 25 #[.val (.ref a1), .val (.int (2 : Int32)), .val (.ref a2), .val (.int (2 : Int32)), .val (.int (4 : Int32)), .val (.int (2 : Int32)), .val (.int ee2)] [(.int (2 : Int32))])) _
          exact own_retI X19 hx Bd.returns (hb hby d8_25) hr
        · show Q8 Z a2 k2 ee0 ee1 ee2 ee3 h0 n0 _ T19.heap _
          rw [e19]
          exact ⟨_, rfl, N24, KP23, Or.inr (Or.inr (Or.inr (Or.inl ⟨rfl, hc29⟩)))⟩
      · have K30 : ∀ t, Steps p.tables e below (T19.setTop (mkF m 31 #[.val (.ref a1), .val (.int (2 : Int32)), .val (.ref a2), .val (.int (2 : Int32)), .val (.int (4 : Int32)), .val (.int (2 : Int32)), .val (.int ee2)] [(.int (ee2.toInt8.toInt32)), (.int (2 : Int32)), (.ref a2)])) t → Steps p.tables e below G t := by
          intro t k
          refine K28 t ?_
          refine XS.icmpYes X19.here hx rfl (pc0 := 20) (pc' := 26) rfl (hb hby d8_20) rfl (flt hc29).2.2.2 (by decide) (by decide) ?_
          refine XS.aloadN X19.here hx rfl (hb hby d8_26) rfl rfl ?_
          refine XS.iloadN X19.here hx rfl (hb hby d8_27) rfl ?_
          refine XS.iload X19.here hx rfl (hb hby d8_28) rfl ?_
          refine XS.i2b X19.here hx rfl (hb hby d8_30) rfl ?_
          exact k
        obtain ⟨cl31, Ar31, qc31, S31, M31, Ha31, Ga31⟩ := id V19
        have hin31 : ¬ ((2 : Int32) < 0 ∨ cl31.slots.size ≤ ((2 : Int32)).toNatClampNeg) := inb_of S31 ⟨by decide, by decide⟩
        obtain ⟨T31, h31, X31, e31, W31, st31⟩ := stB X19 hx hZ e19 Ar31 (j := (2 : Int32)) hin31 (g := (mkF m 31 #[.val (.ref a1), .val (.int (2 : Int32)), .val (.ref a2), .val (.int (2 : Int32)), .val (.int (4 : Int32)), .val (.int (2 : Int32)), .val (.int ee2)] [(.int (ee2.toInt8.toInt32)), (.int (2 : Int32)), (.ref a2)])) rfl rfl (hb hby d8_31)
        have V31 : Arv Z h31 a2 k2 .byte (4 : Int32) [(.int ((ee0.toInt8.toInt32).toInt8.toInt32)), (.int ((ee1.toInt8.toInt32).toInt8.toInt32)), (.int ((ee2.toInt8.toInt32).toInt8.toInt32)), (.int (0 : Int32))] (Value.int (0 : Int32)) := Arv.set Ar31 qc31 S31 M31 Ha31 Ga31 (fits_nar_byte _) W31 2 rfl (Nat.le_of_ble_eq_true rfl)
        have K32 : ∀ t, Steps p.tables e below (T31.setTop (mkF m 32 #[.val (.ref a1), .val (.int (2 : Int32)), .val (.ref a2), .val (.int (2 : Int32)), .val (.int (4 : Int32)), .val (.int (2 : Int32)), .val (.int ee2)] [])) t → Steps p.tables e below G t := fun t k => K30 t (st31 t k)
        have f33 := f21.other W31 ne12
        have Z34 : n0 ≤ h31.size := Nat.le_trans Z22 (Keep.of_wr W31).1
        have KP35 : Keep h0 h31 [a2] := KP23.wr W31 (Or.inl (List.mem_of_getElem? (i := 0) rfl))
        have N36 := Fr.snoc X31 N24 g2
        have K37 : ∀ t, Steps p.tables e below (T31.setTop (mkF m 12 #[.val (.ref a1), .val (.int (3 : Int32)), .val (.ref a2), .val (.int (3 : Int32)), .val (.int (4 : Int32)), .val (.int (3 : Int32)), .val (.int ee2)] [(.int (3 : Int32)), (.ref a1)])) t → Steps p.tables e below G t := by
          intro t k
          refine K32 t ?_
          refine XS.iinc X31.here hx rfl (hb hby d8_32) rfl (l' := #[.val (.ref a1), .val (.int (3 : Int32)), .val (.ref a2), .val (.int (2 : Int32)), .val (.int (4 : Int32)), .val (.int (2 : Int32)), .val (.int ee2)]) rfl ?_
          refine XS.iinc X31.here hx rfl (hb hby d8_35) rfl (l' := #[.val (.ref a1), .val (.int (3 : Int32)), .val (.ref a2), .val (.int (3 : Int32)), .val (.int (4 : Int32)), .val (.int (2 : Int32)), .val (.int ee2)]) rfl ?_
          refine XS.iinc X31.here hx rfl (hb hby d8_38) rfl (l' := #[.val (.ref a1), .val (.int (3 : Int32)), .val (.ref a2), .val (.int (3 : Int32)), .val (.int (4 : Int32)), .val (.int (3 : Int32)), .val (.int ee2)]) rfl ?_
          refine XS.goto X31.here hx rfl (pc0 := 41) (pc' := 3) rfl (hb hby d8_41) (by decide) (by decide) ?_
          refine XS.iload X31.here hx rfl (hb hby d8_3) rfl ?_
          refine XS.iload X31.here hx rfl (hb hby d8_5) rfl ?_
          refine XS.icmpNo X31.here hx rfl (hb hby d8_7) rfl (tlt (by decide)).2.1 ?_
          refine XS.aloadN X31.here hx rfl (hb hby d8_10) rfl rfl ?_
          refine XS.iloadN X31.here hx rfl (hb hby d8_11) rfl ?_
          exact k
        obtain ⟨cl38, Ar38, qc38, S38, M38, Ha38, Ga38⟩ := id f33
        have hin38 : ¬ ((3 : Int32) < 0 ∨ cl38.slots.size ≤ ((3 : Int32)).toNatClampNeg) := inb_of S38 ⟨by decide, by decide⟩
        have hat38 : cl38.slots[((3 : Int32)).toNatClampNeg]? = some (.int ee3) := Ha38.at hin38 rfl
        have K39 : ∀ t, Steps p.tables e below (T31.setTop (mkF m 13 #[.val (.ref a1), .val (.int (3 : Int32)), .val (.ref a2), .val (.int (3 : Int32)), .val (.int (4 : Int32)), .val (.int (3 : Int32)), .val (.int ee2)] [(.int ee3)])) t → Steps p.tables e below G t := fun t k => K37 t (X31.caload hx (j := (3 : Int32)) (v := (.int ee3)) (by rw [e31]; exact Ar38.1) (State.isArrayOf_alike hZ.alike Ar38.2.1) Ar38.2.2 hin38 hat38 (g := (mkF m 12 #[.val (.ref a1), .val (.int (3 : Int32)), .val (.ref a2), .val (.int (3 : Int32)), .val (.int (4 : Int32)), .val (.int (3 : Int32)), .val (.int ee2)] [(.int (3 : Int32)), (.ref a1)])) rfl rfl (hb hby d8_12) _ k)
        have K40 : ∀ t, Steps p.tables e below (T31.setTop (mkF m 20 #[.val (.ref a1), .val (.int (3 : Int32)), .val (.ref a2), .val (.int (3 : Int32)), .val (.int (4 : Int32)), .val (.int (3 : Int32)), .val (.int ee3)] [(.int (255 : Int32)), (.int ee3)])) t → Steps p.tables e below G t := by
          intro t k
          refine K39 t ?_
          refine XS.istore X31.here hx rfl (hb hby d8_13) rfl (l' := #[.val (.ref a1), .val (.int (3 : Int32)), .val (.ref a2), .val (.int (3 : Int32)), .val (.int (4 : Int32)), .val (.int (3 : Int32)), .val (.int ee3)]) rfl ?_
          refine XS.iload X31.here hx rfl (hb hby d8_15) rfl ?_
          refine XS.sipush X31.here hx rfl (hb hby d8_17) ?_
          exact k
        by_cases hc41 : (255 : Int32) < ee3
        · obtain ⟨fs, hr, hrun, hended, hW, hsame⟩ := X31.leave (v := some (.int (3 : Int32))) (fun h => by rw [Bd.returns] at h; cases h)
          have KF := K40
          rw [hG] at KF
          refine ⟨_, _, KF _ ?_, hrun, hended, _, _, rfl, ?_, ⟨_, rfl⟩, hW, hsame.mono (by decide) (by decide)⟩
          · refine XS.icmpNo X31.here hx rfl (hb hby d8_20) rfl (tlt hc41).2.2.2 ?_
            refine XS.iload X31.here hx rfl (hb hby d8_23) rfl ?_
            show Steps p.tables e below (T31.setTop (mkF m 25 #[.val (.ref a1), .val (.int (3 : Int32)), .val (.ref a2), .val (.int (3 : Int32)), .val (.int (4 : Int32)), .val (.int (3 : Int32)), .val (.int ee3)] [(.int (3 : Int32))])) _
            exact own_retI X31 hx Bd.returns (hb hby d8_25) hr
          · show Q8 Z a2 k2 ee0 ee1 ee2 ee3 h0 n0 _ T31.heap _
            rw [e31]
            exact ⟨_, rfl, N36, KP35, Or.inr (Or.inr (Or.inr (Or.inr ⟨rfl, hc41⟩)))⟩
        · have K42 : ∀ t, Steps p.tables e below (T31.setTop (mkF m 31 #[.val (.ref a1), .val (.int (3 : Int32)), .val (.ref a2), .val (.int (3 : Int32)), .val (.int (4 : Int32)), .val (.int (3 : Int32)), .val (.int ee3)] [(.int (ee3.toInt8.toInt32)), (.int (3 : Int32)), (.ref a2)])) t → Steps p.tables e below G t := by
            intro t k
            refine K40 t ?_
            refine XS.icmpYes X31.here hx rfl (pc0 := 20) (pc' := 26) rfl (hb hby d8_20) rfl (flt hc41).2.2.2 (by decide) (by decide) ?_
            refine XS.aloadN X31.here hx rfl (hb hby d8_26) rfl rfl ?_
            refine XS.iloadN X31.here hx rfl (hb hby d8_27) rfl ?_
            refine XS.iload X31.here hx rfl (hb hby d8_28) rfl ?_
            refine XS.i2b X31.here hx rfl (hb hby d8_30) rfl ?_
            exact k
          obtain ⟨cl43, Ar43, qc43, S43, M43, Ha43, Ga43⟩ := id V31
          have hin43 : ¬ ((3 : Int32) < 0 ∨ cl43.slots.size ≤ ((3 : Int32)).toNatClampNeg) := inb_of S43 ⟨by decide, by decide⟩
          obtain ⟨T43, h43, X43, e43, W43, st43⟩ := stB X31 hx hZ e31 Ar43 (j := (3 : Int32)) hin43 (g := (mkF m 31 #[.val (.ref a1), .val (.int (3 : Int32)), .val (.ref a2), .val (.int (3 : Int32)), .val (.int (4 : Int32)), .val (.int (3 : Int32)), .val (.int ee3)] [(.int (ee3.toInt8.toInt32)), (.int (3 : Int32)), (.ref a2)])) rfl rfl (hb hby d8_31)
          have V43 : Arv Z h43 a2 k2 .byte (4 : Int32) [(.int ((ee0.toInt8.toInt32).toInt8.toInt32)), (.int ((ee1.toInt8.toInt32).toInt8.toInt32)), (.int ((ee2.toInt8.toInt32).toInt8.toInt32)), (.int ((ee3.toInt8.toInt32).toInt8.toInt32))] (Value.int (0 : Int32)) := Arv.set Ar43 qc43 S43 M43 Ha43 Ga43 (fits_nar_byte _) W43 3 rfl (Nat.le_of_ble_eq_true rfl)
          have K44 : ∀ t, Steps p.tables e below (T43.setTop (mkF m 32 #[.val (.ref a1), .val (.int (3 : Int32)), .val (.ref a2), .val (.int (3 : Int32)), .val (.int (4 : Int32)), .val (.int (3 : Int32)), .val (.int ee3)] [])) t → Steps p.tables e below G t := fun t k => K42 t (st43 t k)
          have f45 := f33.other W43 ne12
          have Z46 : n0 ≤ h43.size := Nat.le_trans Z34 (Keep.of_wr W43).1
          have KP47 : Keep h0 h43 [a2] := KP35.wr W43 (Or.inl (List.mem_of_getElem? (i := 0) rfl))
          have N48 := Fr.snoc X43 N36 g2
          obtain ⟨fs, hr, hrun, hended, hW, hsame⟩ := X43.leave (v := some (.int (4 : Int32))) (fun h => by rw [Bd.returns] at h; cases h)
          have KF := K44
          rw [hG] at KF
          refine ⟨_, _, KF _ ?_, hrun, hended, _, _, rfl, ?_, ⟨_, rfl⟩, hW, hsame.mono (by decide) (by decide)⟩
          · refine XS.iinc X43.here hx rfl (hb hby d8_32) rfl (l' := #[.val (.ref a1), .val (.int (4 : Int32)), .val (.ref a2), .val (.int (3 : Int32)), .val (.int (4 : Int32)), .val (.int (3 : Int32)), .val (.int ee3)]) rfl ?_
            refine XS.iinc X43.here hx rfl (hb hby d8_35) rfl (l' := #[.val (.ref a1), .val (.int (4 : Int32)), .val (.ref a2), .val (.int (4 : Int32)), .val (.int (4 : Int32)), .val (.int (3 : Int32)), .val (.int ee3)]) rfl ?_
            refine XS.iinc X43.here hx rfl (hb hby d8_38) rfl (l' := #[.val (.ref a1), .val (.int (4 : Int32)), .val (.ref a2), .val (.int (4 : Int32)), .val (.int (4 : Int32)), .val (.int (4 : Int32)), .val (.int ee3)]) rfl ?_
            refine XS.goto X43.here hx rfl (pc0 := 41) (pc' := 3) rfl (hb hby d8_41) (by decide) (by decide) ?_
            refine XS.iload X43.here hx rfl (hb hby d8_3) rfl ?_
            refine XS.iload X43.here hx rfl (hb hby d8_5) rfl ?_
            refine XS.icmpYes X43.here hx rfl (pc0 := 7) (pc' := 44) rfl (hb hby d8_7) rfl (flt (by decide)).2.1 (by decide) (by decide) ?_
            refine XS.iload X43.here hx rfl (hb hby d8_44) rfl ?_
            show Steps p.tables e below (T43.setTop (mkF m 46 #[.val (.ref a1), .val (.int (4 : Int32)), .val (.ref a2), .val (.int (4 : Int32)), .val (.int (4 : Int32)), .val (.int (4 : Int32)), .val (.int ee3)] [(.int (4 : Int32))])) _
            exact own_retI X43 hx Bd.returns (hb hby d8_46) hr
          · show Q8 Z a2 k2 ee0 ee1 ee2 ee3 h0 n0 _ T43.heap _
            rw [e43]
            exact ⟨_, rfl, N48, KP47, Or.inl ⟨rfl, ⟨hc5, hc17, hc29, hc41⟩, V43⟩⟩
def Q7 (Z : State) (ee0 ee1 ee2 ee3 : Int32) (h0 : Heap) (n0 : Nat) (v : Option Value) (h : Heap) (L : List Loc) : Prop := ∃ (b : Addr) (k : ClassId), v = some (.ref b) ∧ Fr n0 L ∧ Keep h0 h [] ∧ h0.size ≤ b ∧ (((¬ (255 : Int32) < ee0 ∧ ¬ (255 : Int32) < ee1 ∧ ¬ (255 : Int32) < ee2 ∧ ¬ (255 : Int32) < ee3) ∧ Arv Z h b k .byte (4 : Int32) [(.int (own_lb ee0)), (.int (own_lb ee1)), (.int (own_lb ee2)), (.int (own_lb ee3))] (Value.int (0 : Int32))) ∨ Arv Z h b k .byte (8 : Int32) [(.int (own_b0 ee0)), (.int (own_b1 ee0)), (.int (own_b0 ee1)), (.int (own_b1 ee1)), (.int (own_b0 ee2)), (.int (own_b1 ee2)), (.int (own_b0 ee3)), (.int (own_b1 ee3))] (Value.int (0 : Int32)))
theorem d7_0 : decode jdk_52_method_16_code 0 = .ok (.iload_n 2, 1) := by decide +kernel
theorem d7_1 : decode jdk_52_method_16_code 1 = .ok (.newarray .byte, 2) := by decide +kernel
theorem d7_3 : decode jdk_52_method_16_code 3 = .ok (.astore_n 3, 1) := by decide +kernel
theorem d7_4 : decode jdk_52_method_16_code 4 = .ok (.aload_n 0, 1) := by decide +kernel
theorem d7_5 : decode jdk_52_method_16_code 5 = .ok (.iload_n 1, 1) := by decide +kernel
theorem d7_6 : decode jdk_52_method_16_code 6 = .ok (.aload_n 3, 1) := by decide +kernel
theorem d7_7 : decode jdk_52_method_16_code 7 = .ok (.iconst 0, 1) := by decide +kernel
theorem d7_8 : decode jdk_52_method_16_code 8 = .ok (.iload_n 2, 1) := by decide +kernel
theorem d7_9 : decode jdk_52_method_16_code 9 = .ok (.invokestatic 115, 3) := by decide +kernel
theorem d7_12 : decode jdk_52_method_16_code 12 = .ok (.istore 4, 2) := by decide +kernel
theorem d7_14 : decode jdk_52_method_16_code 14 = .ok (.iload 4, 2) := by decide +kernel
theorem d7_16 : decode jdk_52_method_16_code 16 = .ok (.iload_n 2, 1) := by decide +kernel
theorem d7_17 : decode jdk_52_method_16_code 17 = .ok (.if_icmp .eq 40, 3) := by decide +kernel
theorem d7_20 : decode jdk_52_method_16_code 20 = .ok (.aload_n 0, 1) := by decide +kernel
theorem d7_21 : decode jdk_52_method_16_code 21 = .ok (.iload_n 1, 1) := by decide +kernel
theorem d7_22 : decode jdk_52_method_16_code 22 = .ok (.iload_n 2, 1) := by decide +kernel
theorem d7_23 : decode jdk_52_method_16_code 23 = .ok (.invokestatic 119, 3) := by decide +kernel
theorem d7_26 : decode jdk_52_method_16_code 26 = .ok (.astore 5, 2) := by decide +kernel
theorem d7_28 : decode jdk_52_method_16_code 28 = .ok (.aload 5, 2) := by decide +kernel
theorem d7_30 : decode jdk_52_method_16_code 30 = .ok (.iload 4, 2) := by decide +kernel
theorem d7_32 : decode jdk_52_method_16_code 32 = .ok (.invokestatic 71, 3) := by decide +kernel
theorem d7_35 : decode jdk_52_method_16_code 35 = .ok (.sipush 255, 3) := by decide +kernel
theorem d7_38 : decode jdk_52_method_16_code 38 = .ok (.if_icmp .gt 16, 3) := by decide +kernel
theorem d7_41 : decode jdk_52_method_16_code 41 = .ok (.aload 5, 2) := by decide +kernel
theorem d7_43 : decode jdk_52_method_16_code 43 = .ok (.iconst 0, 1) := by decide +kernel
theorem d7_44 : decode jdk_52_method_16_code 44 = .ok (.aload_n 3, 1) := by decide +kernel
theorem d7_45 : decode jdk_52_method_16_code 45 = .ok (.iconst 0, 1) := by decide +kernel
theorem d7_46 : decode jdk_52_method_16_code 46 = .ok (.iload_n 2, 1) := by decide +kernel
theorem d7_47 : decode jdk_52_method_16_code 47 = .ok (.invokestatic 123, 3) := by decide +kernel
theorem d7_50 : decode jdk_52_method_16_code 50 = .ok (.iload_n 2, 1) := by decide +kernel
theorem d7_51 : decode jdk_52_method_16_code 51 = .ok (.if_icmp .eq 6, 3) := by decide +kernel
theorem d7_54 : decode jdk_52_method_16_code 54 = .ok (.aload 5, 2) := by decide +kernel
theorem d7_56 : decode jdk_52_method_16_code 56 = .ok (.areturn, 1) := by decide +kernel
theorem d7_57 : decode jdk_52_method_16_code 57 = .ok (.aload_n 3, 1) := by decide +kernel
theorem d7_58 : decode jdk_52_method_16_code 58 = .ok (.areturn, 1) := by decide +kernel
theorem pd_9 : parseMethodDescriptor "([CI[BII)I" = some ⟨[(.array .char), .int, (.array .byte), .int, .int], some .int⟩ := by decide +kernel
theorem pd_10 : parseMethodDescriptor "([CII)[B" = some ⟨[(.array .char), .int, .int], some (.array .byte)⟩ := by decide +kernel
theorem pd_11 : parseMethodDescriptor "([BI)C" = some ⟨[(.array .byte), .int], some .char⟩ := by decide +kernel
theorem ef_rm7 (m : MethodId) (x0 : Addr) : entryFrame m #[(.ref x0), (.int (0 : Int32)), (.int (4 : Int32))] 6 = mkF m 0 #[.val (.ref x0), .val (.int (0 : Int32)), .val (.int (4 : Int32)), .unset, .unset, .unset] [] := by first | (simp [entryFrame, mkF, argsToLocals, Value.category]; done) | rfl
set_option maxRecDepth 65536 in
set_option maxHeartbeats 40000000 in
theorem rm7 (l : Launch) (Z : State) (a0 : Array Value) (hw : ∀ d ∈ tables_1, d.before a0 Z = true) (ws : List Jvm.Cond) (a1 : Addr) (k1 : ClassId) (ee0 ee1 ee2 ee3 : Int32) (cs : Int32) (fv : Value) (h0 : Heap) (n0 : Nat) (Z0 : n0 ≤ h0.size) (V1 : Arv Z h0 a1 k1 .char (4 : Int32) [(.int ee0), (.int ee1), (.int ee2), (.int ee3)] (Value.int (0 : Int32))) (hr0 : 0 ≤ ee0.toInt ∧ ee0.toInt < 65536) (hr1 : 0 ≤ ee1.toInt ∧ ee1.toInt < 65536) (hr2 : 0 ≤ ee2.toInt ∧ ee2.toInt < 65536) (hr3 : 0 ≤ ee3.toInt ∧ ee3.toInt < 65536) (SC : Sta Z Z.heap "java/lang/String" "COMPACT_STRINGS" "Z" (.int cs)) (hcs : ¬ cs = 0) (SA : Sta Z Z.heap "java/lang/StringUTF16" "$assertionsDisabled" "Z" (.int (1 : Int32))) (SH : Sta Z Z.heap "java/lang/StringUTF16" "HI_BYTE_SHIFT" "I" (.int (0 : Int32))) (SL : Sta Z Z.heap "java/lang/StringUTF16" "LO_BYTE_SHIFT" "I" (.int (8 : Int32))) (SF : Sta Z Z.heap "jdk/internal/util/Preconditions" "SIOOBE_FORMATTER" "Ljava/util/function/BiFunction;" fv) (hfv : fv = .null ∨ ∃ a, fv = .ref a) (O0 : Old Z n0 h0) :
    MetFree l (⟨"java/lang/StringUTF16", "compress", "([CII)[B"⟩ : MethodName) (head1 (Jvm.Cond.code (⟨"java/lang/StringUTF16", "compress", "([CII)[B"⟩ : MethodName) jdk_52_method_16_code 6 (some (.array .byte)) :: ws) ({ frames := 3, cells := 2, slots := 12, locals := 40 } : Room)) (fun a U => a = #[(.ref a1), (.int (0 : Int32)), (.int (4 : Int32))] ∧ Z.Warmed39 U.vm ∧ U.heap = h0) (fun _ _ _ _ _ => True) (fun _ U o U' => ∃ v L, o = .returned v ∧ Q7 Z ee0 ee1 ee2 ee3 h0 n0 v U'.heap L ∧ FrameEnd U o U' L ({ frames := 3, cells := 2, slots := 12, locals := 40 } : Room).cells ({ frames := 3, cells := 2, slots := 12, locals := 40 } : Room).slots) := by
  refine MetFree.of_bodySF (plainFor_of_name pn_java_lang_StringUTF16) hisR ?_
  intro p e s m args below meth c s₁ Bd hml0 hP hK
  obtain ⟨rfl, hZ, hh⟩ := hP
  have hx := Bd.exec
  have hby := Bd.bytes
  have hml : c.maxLocals = 6 := hml0
  have hown : s.vm.findClass "java/lang/StringUTF16" = some m.cls := findClass_of_methodNamed Bd.named
  have hnm := (name_of_methodNamed Bd.named Bd.method).1
  have X0 : Stand p l e ({ frames := 3, cells := 2, slots := 12, locals := 40 } : Room) s m #[(.ref a1), (.int (0 : Int32)), (.int (4 : Int32))] below meth c s₁ [] 0 0 := Stand.of_body Bd
  have e0 : s₁.heap = h0 := by rw [← hh, Bd.state]; rfl
  have N0 := Fr.nil n0
  have KP0 : Keep h0 h0 [] := Keep.refl h0 _
  obtain ⟨G, hG⟩ : ∃ G : State, G = s₁.setTop (entryFrame m #[(.ref a1), (.int (0 : Int32)), (.int (4 : Int32))] 6) := ⟨_, rfl⟩
  have pre0 : ∀ t, Steps p.tables e below (s₁.setTop (mkF m 0 #[.val (.ref a1), .val (.int (0 : Int32)), .val (.int (4 : Int32)), .unset, .unset, .unset] [])) t → Steps p.tables e below G t := fun t k => hG ▸ castTop (ef_rm7 m a1) k
  have K1 : ∀ t, Steps p.tables e below (s₁.setTop (mkF m 1 #[.val (.ref a1), .val (.int (0 : Int32)), .val (.int (4 : Int32)), .unset, .unset, .unset] [(.int (4 : Int32))])) t → Steps p.tables e below G t := by
    intro t k
    refine pre0 t ?_
    refine XS.iloadN X0.here hx rfl (hb hby d7_0) rfl ?_
    exact k
  obtain ⟨T2, h2, kn2, X2, e2, E2, A2, st2⟩ := newP X0 hx hZ (hw _ (List.mem_of_getElem? (i := 38) rfl)) e0 (g := (mkF m 1 #[.val (.ref a1), .val (.int (0 : Int32)), .val (.int (4 : Int32)), .unset, .unset, .unset] [(.int (4 : Int32))])) rfl (hb hby d7_1) rfl (by decide) (cap := 4) (by decide) (by decide) (by decide) (by decide)
  obtain ⟨b2, g2⟩ : ∃ z, z = h0.size := ⟨_, rfl⟩
  rw [← g2] at A2 st2
  have ne_a1_b2 : a1 ≠ b2 := Nat.ne_of_lt (Nat.lt_of_lt_of_le V1.lt (Nat.le_of_eq g2.symm))
  have g_b2 : n0 ≤ b2 := Nat.le_trans Z0 (Nat.le_of_eq g2.symm)
  have sz_b2 : h0.size ≤ b2 := Nat.le_trans KP0.1 (Nat.le_of_eq g2.symm)
  have f3 := V1.ext E2
  have f4 := O0.ext E2
  have Z5 : n0 ≤ h2.size := Nat.le_trans Z0 E2.1
  have KP6 : Keep h0 h2 [] := KP0.ext E2
  have K7 : ∀ t, Steps p.tables e below (T2.setTop (mkF m 3 #[.val (.ref a1), .val (.int (0 : Int32)), .val (.int (4 : Int32)), .unset, .unset, .unset] [(.ref b2)])) t → Steps p.tables e below G t := fun t k => K1 t (st2 t k)
  have V2 : Arv Z h2 b2 kn2 .byte (4 : Int32) [(.int (0 : Int32)), (.int (0 : Int32)), (.int (0 : Int32)), (.int (0 : Int32))] (.int (0 : Int32)) := (Arv.new A2 (by decide)).pad (pad_rep [] (.int (0 : Int32)) 4)
  have K8 : ∀ t, Steps p.tables e below (T2.setTop (mkF m 9 #[.val (.ref a1), .val (.int (0 : Int32)), .val (.int (4 : Int32)), .val (.ref b2), .unset, .unset] [(.int (4 : Int32)), (.int (0 : Int32)), (.ref b2), (.int (0 : Int32)), (.ref a1)])) t → Steps p.tables e below G t := by
    intro t k
    refine K7 t ?_
    refine XS.astoreN X2.here hx rfl (hb hby d7_3) rfl rfl (l' := #[.val (.ref a1), .val (.int (0 : Int32)), .val (.int (4 : Int32)), .val (.ref b2), .unset, .unset]) rfl ?_
    refine XS.aloadN X2.here hx rfl (hb hby d7_4) rfl rfl ?_
    refine XS.iloadN X2.here hx rfl (hb hby d7_5) rfl ?_
    refine XS.aloadN X2.here hx rfl (hb hby d7_6) rfl rfl ?_
    refine XS.iconst X2.here hx rfl (hb hby d7_7) ?_
    refine XS.iloadN X2.here hx rfl (hb hby d7_8) rfl ?_
    exact k
  obtain ⟨_, _, ⟨T9, L9, kk9, nn9⟩, -, X9, ⟨Lc9, hQ9, lq9, yq9, zq9⟩, st9⟩ := Jvm.LawKit.callS X2 hx (y := (⟨"java/lang/StringUTF16", "compress", "([CI[BII)I"⟩ : MethodName)) hown (mvT hZ (hw _ (List.mem_of_getElem? (i := 39) rfl))) (mvT hZ (hw _ (List.mem_of_getElem? (i := 40) rfl))) (mvT hZ (hw _ (List.mem_of_getElem? (i := 36) rfl))) (mvT hZ (hw _ (List.mem_of_getElem? (i := 41) rfl))) (by decide) (backOf (W := 0) (rm8 l Z a0 hw [] a1 b2 k1 kn2 ee0 ee1 ee2 ee3 h2 n0 Z5 f3 V2 ne_a1_b2 g_b2) hZ (hw _ (List.mem_of_getElem? (i := 41) rfl)) (hw _ (List.mem_of_getElem? (i := 36) rfl)) (by decide) (by decide)) (g := (mkF m 9 #[.val (.ref a1), .val (.int (0 : Int32)), .val (.int (4 : Int32)), .val (.ref b2), .unset, .unset] [(.int (4 : Int32)), (.int (0 : Int32)), (.ref b2), (.int (0 : Int32)), (.ref a1)])) rfl (by rw [hml]; rfl) (argsL := [(.ref a1), (.int (0 : Int32)), (.ref b2), (.int (0 : Int32)), (.int (4 : Int32))]) (rest := []) (lenOf pd_9 rfl) rfl (by show 2 * 0 + _ ≤ _; exact Nat.le_of_eq rfl) (hb hby d7_9) (fun _ _ => ⟨rfl, e2, (by decide : 1 + 0 ≤ _), (by decide : 4 + 0 ≤ _)⟩)
  dsimp only [Pt.U, Pt.locs, Pt.cells, Pt.slots] at X9 lq9 yq9 zq9 st9 hQ9
  subst lq9 yq9 zq9
  obtain ⟨r9, rfl, Nq9, K9, hcr9⟩ := hQ9
  have N10 := Fr.app N0 Nq9
  have f11 := f3.keep K9 (ninS ne_a1_b2 nin0)
  have f12 := f4.keep K9 (allS g_b2 all0)
  have Z13 : n0 ≤ T9.heap.size := Nat.le_trans Z5 K9.1
  have KP14 : Keep h0 T9.heap [] := KP6.trans K9 (allS (Or.inr sz_b2) all0)
  have K15 : ∀ t, Steps p.tables e below (T9.setTop (mkF m 12 #[.val (.ref a1), .val (.int (0 : Int32)), .val (.int (4 : Int32)), .val (.ref b2), .unset, .unset] [(.int r9)])) t → Steps p.tables e below G t := fun t k => K8 t (st9 _ k)
  rcases hcr9 with ⟨rfl, hle, VL⟩ | ⟨rfl, hj⟩ | ⟨rfl, hj⟩ | ⟨rfl, hj⟩ | ⟨rfl, hj⟩
  · obtain ⟨fs, hr, hrun, hended, hW, hsame⟩ := X9.leave (v := some (.ref b2)) (fun h => by rw [Bd.returns] at h; cases h)
    have KF := K15
    rw [hG] at KF
    refine ⟨_, _, KF _ ?_, hrun, hended, _, _, rfl, ?_, ⟨_, rfl⟩, hW, hsame.mono (by decide) (by decide)⟩
    · refine XS.istore X9.here hx rfl (hb hby d7_12) rfl (l' := #[.val (.ref a1), .val (.int (0 : Int32)), .val (.int (4 : Int32)), .val (.ref b2), .val (.int (4 : Int32)), .unset]) rfl ?_
      refine XS.iload X9.here hx rfl (hb hby d7_14) rfl ?_
      refine XS.iloadN X9.here hx rfl (hb hby d7_16) rfl ?_
      refine XS.icmpYes X9.here hx rfl (pc0 := 17) (pc' := 57) rfl (hb hby d7_17) rfl (teq (by decide)).1 (by decide) (by decide) ?_
      refine XS.aloadN X9.here hx rfl (hb hby d7_57) rfl rfl ?_
      show Steps p.tables e below (T9.setTop (mkF m 58 #[.val (.ref a1), .val (.int (0 : Int32)), .val (.int (4 : Int32)), .val (.ref b2), .val (.int (4 : Int32)), .unset] [(.ref b2)])) _
      exact own_retA X9 hx Bd.returns rfl rfl rfl (hb hby d7_58) hr
    · show Q7 Z ee0 ee1 ee2 ee3 h0 n0 _ T9.heap _
      exact ⟨_, _, rfl, N10, KP14, sz_b2, Or.inl ⟨hle, VL⟩⟩
  · have K16 : ∀ t, Steps p.tables e below (T9.setTop (mkF m 23 #[.val (.ref a1), .val (.int (0 : Int32)), .val (.int (4 : Int32)), .val (.ref b2), .val (.int (0 : Int32)), .unset] [(.int (4 : Int32)), (.int (0 : Int32)), (.ref a1)])) t → Steps p.tables e below G t := by
      intro t k
      refine K15 t ?_
      refine XS.istore X9.here hx rfl (hb hby d7_12) rfl (l' := #[.val (.ref a1), .val (.int (0 : Int32)), .val (.int (4 : Int32)), .val (.ref b2), .val (.int (0 : Int32)), .unset]) rfl ?_
      refine XS.iload X9.here hx rfl (hb hby d7_14) rfl ?_
      refine XS.iloadN X9.here hx rfl (hb hby d7_16) rfl ?_
      refine XS.icmpNo X9.here hx rfl (hb hby d7_17) rfl (feq (by decide)).1 ?_
      refine XS.aloadN X9.here hx rfl (hb hby d7_20) rfl rfl ?_
      refine XS.iloadN X9.here hx rfl (hb hby d7_21) rfl ?_
      refine XS.iloadN X9.here hx rfl (hb hby d7_22) rfl ?_
      exact k
    obtain ⟨_, _, ⟨T17, L17, kk17, nn17⟩, -, X17, ⟨Lc17, hQ17, lq17, yq17, zq17⟩, st17⟩ := Jvm.LawKit.callS X9 hx (y := (⟨"java/lang/StringUTF16", "toBytes", "([CII)[B"⟩ : MethodName)) hown (mvT hZ (hw _ (List.mem_of_getElem? (i := 42) rfl))) (mvT hZ (hw _ (List.mem_of_getElem? (i := 43) rfl))) (mvT hZ (hw _ (List.mem_of_getElem? (i := 36) rfl))) (mvT hZ (hw _ (List.mem_of_getElem? (i := 44) rfl))) (by decide) (backOf (W := 0) (rm9 l Z a0 hw [] a1 k1 ee0 ee1 ee2 ee3 cs fv T9.heap n0 Z13 f11 SC hcs SA SH SL SF hfv f12) hZ (hw _ (List.mem_of_getElem? (i := 44) rfl)) (hw _ (List.mem_of_getElem? (i := 36) rfl)) (by decide) (by decide)) (g := (mkF m 23 #[.val (.ref a1), .val (.int (0 : Int32)), .val (.int (4 : Int32)), .val (.ref b2), .val (.int (0 : Int32)), .unset] [(.int (4 : Int32)), (.int (0 : Int32)), (.ref a1)])) rfl (by rw [hml]; rfl) (argsL := [(.ref a1), (.int (0 : Int32)), (.int (4 : Int32))]) (rest := []) (lenOf pd_10 rfl) rfl (by show 2 * 0 + _ ≤ _; exact Nat.le_of_eq rfl) (hb hby d7_23) (fun _ _ => ⟨rfl, rfl, (by decide : 1 + 1 ≤ _), (by decide : 4 + 8 ≤ _)⟩)
    dsimp only [Pt.U, Pt.locs, Pt.cells, Pt.slots] at X17 lq17 yq17 zq17 st17 hQ17
    subst lq17 yq17 zq17
    obtain ⟨b17, kb17, rfl, Nq17, K17, sz17, V17⟩ := hQ17
    have N18 := Fr.app N10 Nq17
    have ne_a1_b17 : a1 ≠ b17 := Nat.ne_of_lt (Nat.lt_of_lt_of_le f11.lt sz17)
    have g_b17 : n0 ≤ b17 := Nat.le_trans Z13 sz17
    have sz_b17 : h0.size ≤ b17 := Nat.le_trans KP14.1 sz17
    have f19 := f11.keep K17 nin0
    have f20 := f12.keep K17 all0
    have Z21 : n0 ≤ T17.heap.size := Nat.le_trans Z13 K17.1
    have KP22 : Keep h0 T17.heap [] := KP14.trans K17 all0
    have K23 : ∀ t, Steps p.tables e below (T17.setTop (mkF m 26 #[.val (.ref a1), .val (.int (0 : Int32)), .val (.int (4 : Int32)), .val (.ref b2), .val (.int (0 : Int32)), .unset] [(.ref b17)])) t → Steps p.tables e below G t := fun t k => K16 t (st17 _ k)
    have K24 : ∀ t, Steps p.tables e below (T17.setTop (mkF m 32 #[.val (.ref a1), .val (.int (0 : Int32)), .val (.int (4 : Int32)), .val (.ref b2), .val (.int (0 : Int32)), .val (.ref b17)] [(.int (0 : Int32)), (.ref b17)])) t → Steps p.tables e below G t := by
      intro t k
      refine K23 t ?_
      refine XS.astore X17.here hx rfl (hb hby d7_26) rfl rfl (l' := #[.val (.ref a1), .val (.int (0 : Int32)), .val (.int (4 : Int32)), .val (.ref b2), .val (.int (0 : Int32)), .val (.ref b17)]) rfl ?_
      refine XS.aload X17.here hx rfl (hb hby d7_28) rfl rfl ?_
      refine XS.iload X17.here hx rfl (hb hby d7_30) rfl ?_
      exact k
    obtain ⟨_, _, ⟨T25, L25, kk25, nn25⟩, -, X25, ⟨Lc25, hQ25, lq25, yq25, zq25⟩, st25⟩ := Jvm.LawKit.callS X17 hx (y := (⟨"java/lang/StringUTF16", "getChar", "([BI)C"⟩ : MethodName)) hown (mvT hZ (hw _ (List.mem_of_getElem? (i := 58) rfl))) (mvT hZ (hw _ (List.mem_of_getElem? (i := 59) rfl))) (mvT hZ (hw _ (List.mem_of_getElem? (i := 36) rfl))) (mvT hZ (hw _ (List.mem_of_getElem? (i := 60) rfl))) (by decide) (backOf (W := 0) (rm13_0 l Z a0 hw [] b17 kb17 (own_b0 ee0) (own_b1 ee0) (own_b0 ee1) (own_b1 ee1) (own_b0 ee2) (own_b1 ee2) (own_b0 ee3) (own_b1 ee3) cs fv T17.heap n0 Z21 V17 SC hcs SA SH SL SF hfv f20) hZ (hw _ (List.mem_of_getElem? (i := 60) rfl)) (hw _ (List.mem_of_getElem? (i := 36) rfl)) (by decide) (by decide)) (g := (mkF m 32 #[.val (.ref a1), .val (.int (0 : Int32)), .val (.int (4 : Int32)), .val (.ref b2), .val (.int (0 : Int32)), .val (.ref b17)] [(.int (0 : Int32)), (.ref b17)])) rfl (by rw [hml]; rfl) (argsL := [(.ref b17), (.int (0 : Int32))]) (rest := []) (lenOf pd_11 rfl) rfl (by show 2 * 0 + _ ≤ _; exact Nat.le_of_eq rfl) (hb hby d7_32) (fun _ _ => ⟨rfl, rfl, (by decide : 2 + 0 ≤ _), (by decide : 12 + 0 ≤ _)⟩)
    dsimp only [Pt.U, Pt.locs, Pt.cells, Pt.slots] at X25 lq25 yq25 zq25 st25 hQ25
    subst lq25 yq25 zq25
    obtain ⟨rfl, Nq25, e25⟩ := hQ25
    have N26 := Fr.app N18 Nq25
    have K27 : ∀ t, Steps p.tables e below (T25.setTop (mkF m 35 #[.val (.ref a1), .val (.int (0 : Int32)), .val (.int (4 : Int32)), .val (.ref b2), .val (.int (0 : Int32)), .val (.ref b17)] [(.int (own_g (own_b0 ee0) (own_b1 ee0)))])) t → Steps p.tables e below G t := fun t k => K24 t (st25 _ k)
    obtain ⟨fs, hr, hrun, hended, hW, hsame⟩ := X25.leave (v := some (.ref b17)) (fun h => by rw [Bd.returns] at h; cases h)
    have KF := K27
    rw [hG] at KF
    refine ⟨_, _, KF _ ?_, hrun, hended, _, _, rfl, ?_, ⟨_, rfl⟩, hW, hsame.mono (by decide) (by decide)⟩
    · refine XS.sipush X25.here hx rfl (hb hby d7_35) ?_
      refine XS.icmpYes X25.here hx rfl (pc0 := 38) (pc' := 54) rfl (hb hby d7_38) rfl (tlt (by rw [own_gc hr0]; exact hj)).2.2.1 (by decide) (by decide) ?_
      refine XS.aload X25.here hx rfl (hb hby d7_54) rfl rfl ?_
      show Steps p.tables e below (T25.setTop (mkF m 56 #[.val (.ref a1), .val (.int (0 : Int32)), .val (.int (4 : Int32)), .val (.ref b2), .val (.int (0 : Int32)), .val (.ref b17)] [(.ref b17)])) _
      exact own_retA X25 hx Bd.returns rfl rfl rfl (hb hby d7_56) hr
    · show Q7 Z ee0 ee1 ee2 ee3 h0 n0 _ T25.heap _
      rw [e25]
      exact ⟨_, _, rfl, N26, KP22, sz_b17, Or.inr V17⟩
  · have K28 : ∀ t, Steps p.tables e below (T9.setTop (mkF m 23 #[.val (.ref a1), .val (.int (0 : Int32)), .val (.int (4 : Int32)), .val (.ref b2), .val (.int (1 : Int32)), .unset] [(.int (4 : Int32)), (.int (0 : Int32)), (.ref a1)])) t → Steps p.tables e below G t := by
      intro t k
      refine K15 t ?_
      refine XS.istore X9.here hx rfl (hb hby d7_12) rfl (l' := #[.val (.ref a1), .val (.int (0 : Int32)), .val (.int (4 : Int32)), .val (.ref b2), .val (.int (1 : Int32)), .unset]) rfl ?_
      refine XS.iload X9.here hx rfl (hb hby d7_14) rfl ?_
      refine XS.iloadN X9.here hx rfl (hb hby d7_16) rfl ?_
      refine XS.icmpNo X9.here hx rfl (hb hby d7_17) rfl (feq (by decide)).1 ?_
      refine XS.aloadN X9.here hx rfl (hb hby d7_20) rfl rfl ?_
      refine XS.iloadN X9.here hx rfl (hb hby d7_21) rfl ?_
      refine XS.iloadN X9.here hx rfl (hb hby d7_22) rfl ?_
      exact k
    obtain ⟨_, _, ⟨T29, L29, kk29, nn29⟩, -, X29, ⟨Lc29, hQ29, lq29, yq29, zq29⟩, st29⟩ := Jvm.LawKit.callS X9 hx (y := (⟨"java/lang/StringUTF16", "toBytes", "([CII)[B"⟩ : MethodName)) hown (mvT hZ (hw _ (List.mem_of_getElem? (i := 42) rfl))) (mvT hZ (hw _ (List.mem_of_getElem? (i := 43) rfl))) (mvT hZ (hw _ (List.mem_of_getElem? (i := 36) rfl))) (mvT hZ (hw _ (List.mem_of_getElem? (i := 44) rfl))) (by decide) (backOf (W := 0) (rm9 l Z a0 hw [] a1 k1 ee0 ee1 ee2 ee3 cs fv T9.heap n0 Z13 f11 SC hcs SA SH SL SF hfv f12) hZ (hw _ (List.mem_of_getElem? (i := 44) rfl)) (hw _ (List.mem_of_getElem? (i := 36) rfl)) (by decide) (by decide)) (g := (mkF m 23 #[.val (.ref a1), .val (.int (0 : Int32)), .val (.int (4 : Int32)), .val (.ref b2), .val (.int (1 : Int32)), .unset] [(.int (4 : Int32)), (.int (0 : Int32)), (.ref a1)])) rfl (by rw [hml]; rfl) (argsL := [(.ref a1), (.int (0 : Int32)), (.int (4 : Int32))]) (rest := []) (lenOf pd_10 rfl) rfl (by show 2 * 0 + _ ≤ _; exact Nat.le_of_eq rfl) (hb hby d7_23) (fun _ _ => ⟨rfl, rfl, (by decide : 1 + 1 ≤ _), (by decide : 4 + 8 ≤ _)⟩)
    dsimp only [Pt.U, Pt.locs, Pt.cells, Pt.slots] at X29 lq29 yq29 zq29 st29 hQ29
    subst lq29 yq29 zq29
    obtain ⟨b29, kb29, rfl, Nq29, K29, sz29, V29⟩ := hQ29
    have N30 := Fr.app N10 Nq29
    have ne_a1_b29 : a1 ≠ b29 := Nat.ne_of_lt (Nat.lt_of_lt_of_le f11.lt sz29)
    have g_b29 : n0 ≤ b29 := Nat.le_trans Z13 sz29
    have sz_b29 : h0.size ≤ b29 := Nat.le_trans KP14.1 sz29
    have f31 := f11.keep K29 nin0
    have f32 := f12.keep K29 all0
    have Z33 : n0 ≤ T29.heap.size := Nat.le_trans Z13 K29.1
    have KP34 : Keep h0 T29.heap [] := KP14.trans K29 all0
    have K35 : ∀ t, Steps p.tables e below (T29.setTop (mkF m 26 #[.val (.ref a1), .val (.int (0 : Int32)), .val (.int (4 : Int32)), .val (.ref b2), .val (.int (1 : Int32)), .unset] [(.ref b29)])) t → Steps p.tables e below G t := fun t k => K28 t (st29 _ k)
    have K36 : ∀ t, Steps p.tables e below (T29.setTop (mkF m 32 #[.val (.ref a1), .val (.int (0 : Int32)), .val (.int (4 : Int32)), .val (.ref b2), .val (.int (1 : Int32)), .val (.ref b29)] [(.int (1 : Int32)), (.ref b29)])) t → Steps p.tables e below G t := by
      intro t k
      refine K35 t ?_
      refine XS.astore X29.here hx rfl (hb hby d7_26) rfl rfl (l' := #[.val (.ref a1), .val (.int (0 : Int32)), .val (.int (4 : Int32)), .val (.ref b2), .val (.int (1 : Int32)), .val (.ref b29)]) rfl ?_
      refine XS.aload X29.here hx rfl (hb hby d7_28) rfl rfl ?_
      refine XS.iload X29.here hx rfl (hb hby d7_30) rfl ?_
      exact k
    obtain ⟨_, _, ⟨T37, L37, kk37, nn37⟩, -, X37, ⟨Lc37, hQ37, lq37, yq37, zq37⟩, st37⟩ := Jvm.LawKit.callS X29 hx (y := (⟨"java/lang/StringUTF16", "getChar", "([BI)C"⟩ : MethodName)) hown (mvT hZ (hw _ (List.mem_of_getElem? (i := 58) rfl))) (mvT hZ (hw _ (List.mem_of_getElem? (i := 59) rfl))) (mvT hZ (hw _ (List.mem_of_getElem? (i := 36) rfl))) (mvT hZ (hw _ (List.mem_of_getElem? (i := 60) rfl))) (by decide) (backOf (W := 0) (rm13_1 l Z a0 hw [] b29 kb29 (own_b0 ee0) (own_b1 ee0) (own_b0 ee1) (own_b1 ee1) (own_b0 ee2) (own_b1 ee2) (own_b0 ee3) (own_b1 ee3) cs fv T29.heap n0 Z33 V29 SC hcs SA SH SL SF hfv f32) hZ (hw _ (List.mem_of_getElem? (i := 60) rfl)) (hw _ (List.mem_of_getElem? (i := 36) rfl)) (by decide) (by decide)) (g := (mkF m 32 #[.val (.ref a1), .val (.int (0 : Int32)), .val (.int (4 : Int32)), .val (.ref b2), .val (.int (1 : Int32)), .val (.ref b29)] [(.int (1 : Int32)), (.ref b29)])) rfl (by rw [hml]; rfl) (argsL := [(.ref b29), (.int (1 : Int32))]) (rest := []) (lenOf pd_11 rfl) rfl (by show 2 * 0 + _ ≤ _; exact Nat.le_of_eq rfl) (hb hby d7_32) (fun _ _ => ⟨rfl, rfl, (by decide : 2 + 0 ≤ _), (by decide : 12 + 0 ≤ _)⟩)
    dsimp only [Pt.U, Pt.locs, Pt.cells, Pt.slots] at X37 lq37 yq37 zq37 st37 hQ37
    subst lq37 yq37 zq37
    obtain ⟨rfl, Nq37, e37⟩ := hQ37
    have N38 := Fr.app N30 Nq37
    have K39 : ∀ t, Steps p.tables e below (T37.setTop (mkF m 35 #[.val (.ref a1), .val (.int (0 : Int32)), .val (.int (4 : Int32)), .val (.ref b2), .val (.int (1 : Int32)), .val (.ref b29)] [(.int (own_g (own_b0 ee1) (own_b1 ee1)))])) t → Steps p.tables e below G t := fun t k => K36 t (st37 _ k)
    obtain ⟨fs, hr, hrun, hended, hW, hsame⟩ := X37.leave (v := some (.ref b29)) (fun h => by rw [Bd.returns] at h; cases h)
    have KF := K39
    rw [hG] at KF
    refine ⟨_, _, KF _ ?_, hrun, hended, _, _, rfl, ?_, ⟨_, rfl⟩, hW, hsame.mono (by decide) (by decide)⟩
    · refine XS.sipush X37.here hx rfl (hb hby d7_35) ?_
      refine XS.icmpYes X37.here hx rfl (pc0 := 38) (pc' := 54) rfl (hb hby d7_38) rfl (tlt (by rw [own_gc hr1]; exact hj)).2.2.1 (by decide) (by decide) ?_
      refine XS.aload X37.here hx rfl (hb hby d7_54) rfl rfl ?_
      show Steps p.tables e below (T37.setTop (mkF m 56 #[.val (.ref a1), .val (.int (0 : Int32)), .val (.int (4 : Int32)), .val (.ref b2), .val (.int (1 : Int32)), .val (.ref b29)] [(.ref b29)])) _
      exact own_retA X37 hx Bd.returns rfl rfl rfl (hb hby d7_56) hr
    · show Q7 Z ee0 ee1 ee2 ee3 h0 n0 _ T37.heap _
      rw [e37]
      exact ⟨_, _, rfl, N38, KP34, sz_b29, Or.inr V29⟩
  · have K40 : ∀ t, Steps p.tables e below (T9.setTop (mkF m 23 #[.val (.ref a1), .val (.int (0 : Int32)), .val (.int (4 : Int32)), .val (.ref b2), .val (.int (2 : Int32)), .unset] [(.int (4 : Int32)), (.int (0 : Int32)), (.ref a1)])) t → Steps p.tables e below G t := by
      intro t k
      refine K15 t ?_
      refine XS.istore X9.here hx rfl (hb hby d7_12) rfl (l' := #[.val (.ref a1), .val (.int (0 : Int32)), .val (.int (4 : Int32)), .val (.ref b2), .val (.int (2 : Int32)), .unset]) rfl ?_
      refine XS.iload X9.here hx rfl (hb hby d7_14) rfl ?_
      refine XS.iloadN X9.here hx rfl (hb hby d7_16) rfl ?_
      refine XS.icmpNo X9.here hx rfl (hb hby d7_17) rfl (feq (by decide)).1 ?_
      refine XS.aloadN X9.here hx rfl (hb hby d7_20) rfl rfl ?_
      refine XS.iloadN X9.here hx rfl (hb hby d7_21) rfl ?_
      refine XS.iloadN X9.here hx rfl (hb hby d7_22) rfl ?_
      exact k
    obtain ⟨_, _, ⟨T41, L41, kk41, nn41⟩, -, X41, ⟨Lc41, hQ41, lq41, yq41, zq41⟩, st41⟩ := Jvm.LawKit.callS X9 hx (y := (⟨"java/lang/StringUTF16", "toBytes", "([CII)[B"⟩ : MethodName)) hown (mvT hZ (hw _ (List.mem_of_getElem? (i := 42) rfl))) (mvT hZ (hw _ (List.mem_of_getElem? (i := 43) rfl))) (mvT hZ (hw _ (List.mem_of_getElem? (i := 36) rfl))) (mvT hZ (hw _ (List.mem_of_getElem? (i := 44) rfl))) (by decide) (backOf (W := 0) (rm9 l Z a0 hw [] a1 k1 ee0 ee1 ee2 ee3 cs fv T9.heap n0 Z13 f11 SC hcs SA SH SL SF hfv f12) hZ (hw _ (List.mem_of_getElem? (i := 44) rfl)) (hw _ (List.mem_of_getElem? (i := 36) rfl)) (by decide) (by decide)) (g := (mkF m 23 #[.val (.ref a1), .val (.int (0 : Int32)), .val (.int (4 : Int32)), .val (.ref b2), .val (.int (2 : Int32)), .unset] [(.int (4 : Int32)), (.int (0 : Int32)), (.ref a1)])) rfl (by rw [hml]; rfl) (argsL := [(.ref a1), (.int (0 : Int32)), (.int (4 : Int32))]) (rest := []) (lenOf pd_10 rfl) rfl (by show 2 * 0 + _ ≤ _; exact Nat.le_of_eq rfl) (hb hby d7_23) (fun _ _ => ⟨rfl, rfl, (by decide : 1 + 1 ≤ _), (by decide : 4 + 8 ≤ _)⟩)
    dsimp only [Pt.U, Pt.locs, Pt.cells, Pt.slots] at X41 lq41 yq41 zq41 st41 hQ41
    subst lq41 yq41 zq41
    obtain ⟨b41, kb41, rfl, Nq41, K41, sz41, V41⟩ := hQ41
    have N42 := Fr.app N10 Nq41
    have ne_a1_b41 : a1 ≠ b41 := Nat.ne_of_lt (Nat.lt_of_lt_of_le f11.lt sz41)
    have g_b41 : n0 ≤ b41 := Nat.le_trans Z13 sz41
    have sz_b41 : h0.size ≤ b41 := Nat.le_trans KP14.1 sz41
    have f43 := f11.keep K41 nin0
    have f44 := f12.keep K41 all0
    have Z45 : n0 ≤ T41.heap.size := Nat.le_trans Z13 K41.1
    have KP46 : Keep h0 T41.heap [] := KP14.trans K41 all0
    have K47 : ∀ t, Steps p.tables e below (T41.setTop (mkF m 26 #[.val (.ref a1), .val (.int (0 : Int32)), .val (.int (4 : Int32)), .val (.ref b2), .val (.int (2 : Int32)), .unset] [(.ref b41)])) t → Steps p.tables e below G t := fun t k => K40 t (st41 _ k)
    have K48 : ∀ t, Steps p.tables e below (T41.setTop (mkF m 32 #[.val (.ref a1), .val (.int (0 : Int32)), .val (.int (4 : Int32)), .val (.ref b2), .val (.int (2 : Int32)), .val (.ref b41)] [(.int (2 : Int32)), (.ref b41)])) t → Steps p.tables e below G t := by
      intro t k
      refine K47 t ?_
      refine XS.astore X41.here hx rfl (hb hby d7_26) rfl rfl (l' := #[.val (.ref a1), .val (.int (0 : Int32)), .val (.int (4 : Int32)), .val (.ref b2), .val (.int (2 : Int32)), .val (.ref b41)]) rfl ?_
      refine XS.aload X41.here hx rfl (hb hby d7_28) rfl rfl ?_
      refine XS.iload X41.here hx rfl (hb hby d7_30) rfl ?_
      exact k
    obtain ⟨_, _, ⟨T49, L49, kk49, nn49⟩, -, X49, ⟨Lc49, hQ49, lq49, yq49, zq49⟩, st49⟩ := Jvm.LawKit.callS X41 hx (y := (⟨"java/lang/StringUTF16", "getChar", "([BI)C"⟩ : MethodName)) hown (mvT hZ (hw _ (List.mem_of_getElem? (i := 58) rfl))) (mvT hZ (hw _ (List.mem_of_getElem? (i := 59) rfl))) (mvT hZ (hw _ (List.mem_of_getElem? (i := 36) rfl))) (mvT hZ (hw _ (List.mem_of_getElem? (i := 60) rfl))) (by decide) (backOf (W := 0) (rm13_2 l Z a0 hw [] b41 kb41 (own_b0 ee0) (own_b1 ee0) (own_b0 ee1) (own_b1 ee1) (own_b0 ee2) (own_b1 ee2) (own_b0 ee3) (own_b1 ee3) cs fv T41.heap n0 Z45 V41 SC hcs SA SH SL SF hfv f44) hZ (hw _ (List.mem_of_getElem? (i := 60) rfl)) (hw _ (List.mem_of_getElem? (i := 36) rfl)) (by decide) (by decide)) (g := (mkF m 32 #[.val (.ref a1), .val (.int (0 : Int32)), .val (.int (4 : Int32)), .val (.ref b2), .val (.int (2 : Int32)), .val (.ref b41)] [(.int (2 : Int32)), (.ref b41)])) rfl (by rw [hml]; rfl) (argsL := [(.ref b41), (.int (2 : Int32))]) (rest := []) (lenOf pd_11 rfl) rfl (by show 2 * 0 + _ ≤ _; exact Nat.le_of_eq rfl) (hb hby d7_32) (fun _ _ => ⟨rfl, rfl, (by decide : 2 + 0 ≤ _), (by decide : 12 + 0 ≤ _)⟩)
    dsimp only [Pt.U, Pt.locs, Pt.cells, Pt.slots] at X49 lq49 yq49 zq49 st49 hQ49
    subst lq49 yq49 zq49
    obtain ⟨rfl, Nq49, e49⟩ := hQ49
    have N50 := Fr.app N42 Nq49
    have K51 : ∀ t, Steps p.tables e below (T49.setTop (mkF m 35 #[.val (.ref a1), .val (.int (0 : Int32)), .val (.int (4 : Int32)), .val (.ref b2), .val (.int (2 : Int32)), .val (.ref b41)] [(.int (own_g (own_b0 ee2) (own_b1 ee2)))])) t → Steps p.tables e below G t := fun t k => K48 t (st49 _ k)
    obtain ⟨fs, hr, hrun, hended, hW, hsame⟩ := X49.leave (v := some (.ref b41)) (fun h => by rw [Bd.returns] at h; cases h)
    have KF := K51
    rw [hG] at KF
    refine ⟨_, _, KF _ ?_, hrun, hended, _, _, rfl, ?_, ⟨_, rfl⟩, hW, hsame.mono (by decide) (by decide)⟩
    · refine XS.sipush X49.here hx rfl (hb hby d7_35) ?_
      refine XS.icmpYes X49.here hx rfl (pc0 := 38) (pc' := 54) rfl (hb hby d7_38) rfl (tlt (by rw [own_gc hr2]; exact hj)).2.2.1 (by decide) (by decide) ?_
      refine XS.aload X49.here hx rfl (hb hby d7_54) rfl rfl ?_
      show Steps p.tables e below (T49.setTop (mkF m 56 #[.val (.ref a1), .val (.int (0 : Int32)), .val (.int (4 : Int32)), .val (.ref b2), .val (.int (2 : Int32)), .val (.ref b41)] [(.ref b41)])) _
      exact own_retA X49 hx Bd.returns rfl rfl rfl (hb hby d7_56) hr
    · show Q7 Z ee0 ee1 ee2 ee3 h0 n0 _ T49.heap _
      rw [e49]
      exact ⟨_, _, rfl, N50, KP46, sz_b41, Or.inr V41⟩
  · have K52 : ∀ t, Steps p.tables e below (T9.setTop (mkF m 23 #[.val (.ref a1), .val (.int (0 : Int32)), .val (.int (4 : Int32)), .val (.ref b2), .val (.int (3 : Int32)), .unset] [(.int (4 : Int32)), (.int (0 : Int32)), (.ref a1)])) t → Steps p.tables e below G t := by
      intro t k
      refine K15 t ?_
      refine XS.istore X9.here hx rfl (hb hby d7_12) rfl (l' := #[.val (.ref a1), .val (.int (0 : Int32)), .val (.int (4 : Int32)), .val (.ref b2), .val (.int (3 : Int32)), .unset]) rfl ?_
      refine XS.iload X9.here hx rfl (hb hby d7_14) rfl ?_
      refine XS.iloadN X9.here hx rfl (hb hby d7_16) rfl ?_
      refine XS.icmpNo X9.here hx rfl (hb hby d7_17) rfl (feq (by decide)).1 ?_
      refine XS.aloadN X9.here hx rfl (hb hby d7_20) rfl rfl ?_
      refine XS.iloadN X9.here hx rfl (hb hby d7_21) rfl ?_
      refine XS.iloadN X9.here hx rfl (hb hby d7_22) rfl ?_
      exact k
    obtain ⟨_, _, ⟨T53, L53, kk53, nn53⟩, -, X53, ⟨Lc53, hQ53, lq53, yq53, zq53⟩, st53⟩ := Jvm.LawKit.callS X9 hx (y := (⟨"java/lang/StringUTF16", "toBytes", "([CII)[B"⟩ : MethodName)) hown (mvT hZ (hw _ (List.mem_of_getElem? (i := 42) rfl))) (mvT hZ (hw _ (List.mem_of_getElem? (i := 43) rfl))) (mvT hZ (hw _ (List.mem_of_getElem? (i := 36) rfl))) (mvT hZ (hw _ (List.mem_of_getElem? (i := 44) rfl))) (by decide) (backOf (W := 0) (rm9 l Z a0 hw [] a1 k1 ee0 ee1 ee2 ee3 cs fv T9.heap n0 Z13 f11 SC hcs SA SH SL SF hfv f12) hZ (hw _ (List.mem_of_getElem? (i := 44) rfl)) (hw _ (List.mem_of_getElem? (i := 36) rfl)) (by decide) (by decide)) (g := (mkF m 23 #[.val (.ref a1), .val (.int (0 : Int32)), .val (.int (4 : Int32)), .val (.ref b2), .val (.int (3 : Int32)), .unset] [(.int (4 : Int32)), (.int (0 : Int32)), (.ref a1)])) rfl (by rw [hml]; rfl) (argsL := [(.ref a1), (.int (0 : Int32)), (.int (4 : Int32))]) (rest := []) (lenOf pd_10 rfl) rfl (by show 2 * 0 + _ ≤ _; exact Nat.le_of_eq rfl) (hb hby d7_23) (fun _ _ => ⟨rfl, rfl, (by decide : 1 + 1 ≤ _), (by decide : 4 + 8 ≤ _)⟩)
    dsimp only [Pt.U, Pt.locs, Pt.cells, Pt.slots] at X53 lq53 yq53 zq53 st53 hQ53
    subst lq53 yq53 zq53
    obtain ⟨b53, kb53, rfl, Nq53, K53, sz53, V53⟩ := hQ53
    have N54 := Fr.app N10 Nq53
    have ne_a1_b53 : a1 ≠ b53 := Nat.ne_of_lt (Nat.lt_of_lt_of_le f11.lt sz53)
    have g_b53 : n0 ≤ b53 := Nat.le_trans Z13 sz53
    have sz_b53 : h0.size ≤ b53 := Nat.le_trans KP14.1 sz53
    have f55 := f11.keep K53 nin0
    have f56 := f12.keep K53 all0
    have Z57 : n0 ≤ T53.heap.size := Nat.le_trans Z13 K53.1
    have KP58 : Keep h0 T53.heap [] := KP14.trans K53 all0
    have K59 : ∀ t, Steps p.tables e below (T53.setTop (mkF m 26 #[.val (.ref a1), .val (.int (0 : Int32)), .val (.int (4 : Int32)), .val (.ref b2), .val (.int (3 : Int32)), .unset] [(.ref b53)])) t → Steps p.tables e below G t := fun t k => K52 t (st53 _ k)
    have K60 : ∀ t, Steps p.tables e below (T53.setTop (mkF m 32 #[.val (.ref a1), .val (.int (0 : Int32)), .val (.int (4 : Int32)), .val (.ref b2), .val (.int (3 : Int32)), .val (.ref b53)] [(.int (3 : Int32)), (.ref b53)])) t → Steps p.tables e below G t := by
      intro t k
      refine K59 t ?_
      refine XS.astore X53.here hx rfl (hb hby d7_26) rfl rfl (l' := #[.val (.ref a1), .val (.int (0 : Int32)), .val (.int (4 : Int32)), .val (.ref b2), .val (.int (3 : Int32)), .val (.ref b53)]) rfl ?_
      refine XS.aload X53.here hx rfl (hb hby d7_28) rfl rfl ?_
      refine XS.iload X53.here hx rfl (hb hby d7_30) rfl ?_
      exact k
    obtain ⟨_, _, ⟨T61, L61, kk61, nn61⟩, -, X61, ⟨Lc61, hQ61, lq61, yq61, zq61⟩, st61⟩ := Jvm.LawKit.callS X53 hx (y := (⟨"java/lang/StringUTF16", "getChar", "([BI)C"⟩ : MethodName)) hown (mvT hZ (hw _ (List.mem_of_getElem? (i := 58) rfl))) (mvT hZ (hw _ (List.mem_of_getElem? (i := 59) rfl))) (mvT hZ (hw _ (List.mem_of_getElem? (i := 36) rfl))) (mvT hZ (hw _ (List.mem_of_getElem? (i := 60) rfl))) (by decide) (backOf (W := 0) (rm13_3 l Z a0 hw [] b53 kb53 (own_b0 ee0) (own_b1 ee0) (own_b0 ee1) (own_b1 ee1) (own_b0 ee2) (own_b1 ee2) (own_b0 ee3) (own_b1 ee3) cs fv T53.heap n0 Z57 V53 SC hcs SA SH SL SF hfv f56) hZ (hw _ (List.mem_of_getElem? (i := 60) rfl)) (hw _ (List.mem_of_getElem? (i := 36) rfl)) (by decide) (by decide)) (g := (mkF m 32 #[.val (.ref a1), .val (.int (0 : Int32)), .val (.int (4 : Int32)), .val (.ref b2), .val (.int (3 : Int32)), .val (.ref b53)] [(.int (3 : Int32)), (.ref b53)])) rfl (by rw [hml]; rfl) (argsL := [(.ref b53), (.int (3 : Int32))]) (rest := []) (lenOf pd_11 rfl) rfl (by show 2 * 0 + _ ≤ _; exact Nat.le_of_eq rfl) (hb hby d7_32) (fun _ _ => ⟨rfl, rfl, (by decide : 2 + 0 ≤ _), (by decide : 12 + 0 ≤ _)⟩)
    dsimp only [Pt.U, Pt.locs, Pt.cells, Pt.slots] at X61 lq61 yq61 zq61 st61 hQ61
    subst lq61 yq61 zq61
    obtain ⟨rfl, Nq61, e61⟩ := hQ61
    have N62 := Fr.app N54 Nq61
    have K63 : ∀ t, Steps p.tables e below (T61.setTop (mkF m 35 #[.val (.ref a1), .val (.int (0 : Int32)), .val (.int (4 : Int32)), .val (.ref b2), .val (.int (3 : Int32)), .val (.ref b53)] [(.int (own_g (own_b0 ee3) (own_b1 ee3)))])) t → Steps p.tables e below G t := fun t k => K60 t (st61 _ k)
    obtain ⟨fs, hr, hrun, hended, hW, hsame⟩ := X61.leave (v := some (.ref b53)) (fun h => by rw [Bd.returns] at h; cases h)
    have KF := K63
    rw [hG] at KF
    refine ⟨_, _, KF _ ?_, hrun, hended, _, _, rfl, ?_, ⟨_, rfl⟩, hW, hsame.mono (by decide) (by decide)⟩
    · refine XS.sipush X61.here hx rfl (hb hby d7_35) ?_
      refine XS.icmpYes X61.here hx rfl (pc0 := 38) (pc' := 54) rfl (hb hby d7_38) rfl (tlt (by rw [own_gc hr3]; exact hj)).2.2.1 (by decide) (by decide) ?_
      refine XS.aload X61.here hx rfl (hb hby d7_54) rfl rfl ?_
      show Steps p.tables e below (T61.setTop (mkF m 56 #[.val (.ref a1), .val (.int (0 : Int32)), .val (.int (4 : Int32)), .val (.ref b2), .val (.int (3 : Int32)), .val (.ref b53)] [(.ref b53)])) _
      exact own_retA X61 hx Bd.returns rfl rfl rfl (hb hby d7_56) hr
    · show Q7 Z ee0 ee1 ee2 ee3 h0 n0 _ T61.heap _
      rw [e61]
      exact ⟨_, _, rfl, N62, KP58, sz_b53, Or.inr V53⟩
def Q14_l (a1 : Addr) (k1 : ClassId) (vs : List Value) (h0 : Heap) (n0 : Nat) (v : Option Value) (h : Heap) (L : List Loc) : Prop := v = some (.int (0 : Int32)) ∧ Fr n0 L ∧ h = h0
theorem d14_0 : decode jdk_52_method_15_code 0 = .ok (.iload_n 1, 1) := by decide +kernel
theorem d14_1 : decode jdk_52_method_15_code 1 = .ok (.aload_n 0, 1) := by decide +kernel
theorem d14_2 : decode jdk_52_method_15_code 2 = .ok (.arraylength, 1) := by decide +kernel
theorem d14_3 : decode jdk_52_method_15_code 3 = .ok (.isub, 1) := by decide +kernel
theorem d14_4 : decode jdk_52_method_15_code 4 = .ok (.bipush 31, 2) := by decide +kernel
theorem d14_6 : decode jdk_52_method_15_code 6 = .ok (.iushr, 1) := by decide +kernel
theorem d14_7 : decode jdk_52_method_15_code 7 = .ok (.i2b, 1) := by decide +kernel
theorem d14_8 : decode jdk_52_method_15_code 8 = .ok (.ireturn, 1) := by decide +kernel
theorem ef_rm14_l (m : MethodId) (x0 : Addr) : entryFrame m #[(.ref x0), (.int (4 : Int32))] 2 = mkF m 0 #[.val (.ref x0), .val (.int (4 : Int32))] [] := by first | (simp [entryFrame, mkF, argsToLocals, Value.category]; done) | rfl
set_option maxRecDepth 65536 in
set_option maxHeartbeats 40000000 in
theorem rm14_l (l : Launch) (Z : State) (a0 : Array Value) (hw : ∀ d ∈ tables_1, d.before a0 Z = true) (ws : List Jvm.Cond) (a1 : Addr) (k1 : ClassId) (vs : List Value) (h0 : Heap) (n0 : Nat) (Z0 : n0 ≤ h0.size) (V1 : Arv Z h0 a1 k1 .byte (4 : Int32) vs (Value.int (0 : Int32))) :
    MetFree l (⟨"java/lang/StringUTF16", "coderFromArrayLen", "([BI)B"⟩ : MethodName) (head1 (Jvm.Cond.code (⟨"java/lang/StringUTF16", "coderFromArrayLen", "([BI)B"⟩ : MethodName) jdk_52_method_15_code 2 (some .byte) :: ws) ({ frames := 0, cells := 0, slots := 0, locals := 0 } : Room)) (fun a U => a = #[(.ref a1), (.int (4 : Int32))] ∧ Z.Warmed39 U.vm ∧ U.heap = h0) (fun _ _ _ _ _ => True) (fun _ U o U' => ∃ v L, o = .returned v ∧ Q14_l a1 k1 vs h0 n0 v U'.heap L ∧ FrameEnd U o U' L ({ frames := 0, cells := 0, slots := 0, locals := 0 } : Room).cells ({ frames := 0, cells := 0, slots := 0, locals := 0 } : Room).slots) := by
  refine MetFree.of_bodySF (plainFor_of_name pn_java_lang_StringUTF16) hisR ?_
  intro p e s m args below meth c s₁ Bd hml0 hP hK
  obtain ⟨rfl, hZ, hh⟩ := hP
  have hx := Bd.exec
  have hby := Bd.bytes
  have hml : c.maxLocals = 2 := hml0
  have hown : s.vm.findClass "java/lang/StringUTF16" = some m.cls := findClass_of_methodNamed Bd.named
  have hnm := (name_of_methodNamed Bd.named Bd.method).1
  have X0 : Stand p l e ({ frames := 0, cells := 0, slots := 0, locals := 0 } : Room) s m #[(.ref a1), (.int (4 : Int32))] below meth c s₁ [] 0 0 := Stand.of_body Bd
  have e0 : s₁.heap = h0 := by rw [← hh, Bd.state]; rfl
  have N0 := Fr.nil n0
  have KP0 : Keep h0 h0 [] := Keep.refl h0 _
  obtain ⟨G, hG⟩ : ∃ G : State, G = s₁.setTop (entryFrame m #[(.ref a1), (.int (4 : Int32))] 2) := ⟨_, rfl⟩
  have pre0 : ∀ t, Steps p.tables e below (s₁.setTop (mkF m 0 #[.val (.ref a1), .val (.int (4 : Int32))] [])) t → Steps p.tables e below G t := fun t k => hG ▸ castTop (ef_rm14_l m a1) k
  have K1 : ∀ t, Steps p.tables e below (s₁.setTop (mkF m 2 #[.val (.ref a1), .val (.int (4 : Int32))] [(.ref a1), (.int (4 : Int32))])) t → Steps p.tables e below G t := by
    intro t k
    refine pre0 t ?_
    refine XS.iloadN X0.here hx rfl (hb hby d14_0) rfl ?_
    refine XS.aloadN X0.here hx rfl (hb hby d14_1) rfl rfl ?_
    exact k
  obtain ⟨cl2, Ar2, -, S2, M2, -, -⟩ := id V1
  have K3 : ∀ t, Steps p.tables e below (s₁.setTop (mkF m 3 #[.val (.ref a1), .val (.int (4 : Int32))] [(.int (4 : Int32)), (.int (4 : Int32))])) t → Steps p.tables e below G t := by
    intro t k
    refine K1 t ?_
    refine X0.arraylength hx (by rw [e0]; exact Ar2.1) (State.isArrayOf_alike hZ.alike Ar2.2.1) (g := (mkF m 2 #[.val (.ref a1), .val (.int (4 : Int32))] [(.ref a1), (.int (4 : Int32))])) rfl rfl (hb hby d14_2) _ ?_
    rw [len_of S2 M2]
    exact k
  obtain ⟨fs, hr, hrun, hended, hW, hsame⟩ := X0.leave (v := some (.int (((((0 : Int32).toUInt32 >>> ((31 : Int32) &&& 31).toUInt32).toInt32).toInt8.toInt32).toInt8.toInt32))) (fun h => by rw [Bd.returns] at h; cases h)
  have KF := K3
  rw [hG] at KF
  refine ⟨_, _, KF _ ?_, hrun, hended, _, _, rfl, ?_, ⟨_, rfl⟩, hW, hsame.mono (by decide) (by decide)⟩
  · refine XS.isub X0.here hx rfl (hb hby d14_3) rfl ?_
    refine XS.bipush X0.here hx rfl (hb hby d14_4) ?_
    refine XS.iushr X0.here hx rfl (hb hby d14_6) rfl ?_
    refine XS.i2b X0.here hx rfl (hb hby d14_7) rfl ?_
    show Steps p.tables e below (s₁.setTop (mkF m 8 #[.val (.ref a1), .val (.int (4 : Int32))] [(.int ((((0 : Int32).toUInt32 >>> ((31 : Int32) &&& 31).toUInt32).toInt32).toInt8.toInt32))])) _
    exact retN X0 hx (t := .byte) Bd.returns (by simp) (hb hby d14_8) hr
  · show Q14_l a1 k1 vs h0 n0 _ s₁.heap _
    rw [e0]
    exact ⟨rfl, N0, rfl⟩
def Q14_u (a1 : Addr) (k1 : ClassId) (vs : List Value) (h0 : Heap) (n0 : Nat) (v : Option Value) (h : Heap) (L : List Loc) : Prop := v = some (.int (1 : Int32)) ∧ Fr n0 L ∧ h = h0
theorem ef_rm14_u (m : MethodId) (x0 : Addr) : entryFrame m #[(.ref x0), (.int (4 : Int32))] 2 = mkF m 0 #[.val (.ref x0), .val (.int (4 : Int32))] [] := by first | (simp [entryFrame, mkF, argsToLocals, Value.category]; done) | rfl
set_option maxRecDepth 65536 in
set_option maxHeartbeats 40000000 in
theorem rm14_u (l : Launch) (Z : State) (a0 : Array Value) (hw : ∀ d ∈ tables_1, d.before a0 Z = true) (ws : List Jvm.Cond) (a1 : Addr) (k1 : ClassId) (vs : List Value) (h0 : Heap) (n0 : Nat) (Z0 : n0 ≤ h0.size) (V1 : Arv Z h0 a1 k1 .byte (8 : Int32) vs (Value.int (0 : Int32))) :
    MetFree l (⟨"java/lang/StringUTF16", "coderFromArrayLen", "([BI)B"⟩ : MethodName) (head1 (Jvm.Cond.code (⟨"java/lang/StringUTF16", "coderFromArrayLen", "([BI)B"⟩ : MethodName) jdk_52_method_15_code 2 (some .byte) :: ws) ({ frames := 0, cells := 0, slots := 0, locals := 0 } : Room)) (fun a U => a = #[(.ref a1), (.int (4 : Int32))] ∧ Z.Warmed39 U.vm ∧ U.heap = h0) (fun _ _ _ _ _ => True) (fun _ U o U' => ∃ v L, o = .returned v ∧ Q14_u a1 k1 vs h0 n0 v U'.heap L ∧ FrameEnd U o U' L ({ frames := 0, cells := 0, slots := 0, locals := 0 } : Room).cells ({ frames := 0, cells := 0, slots := 0, locals := 0 } : Room).slots) := by
  refine MetFree.of_bodySF (plainFor_of_name pn_java_lang_StringUTF16) hisR ?_
  intro p e s m args below meth c s₁ Bd hml0 hP hK
  obtain ⟨rfl, hZ, hh⟩ := hP
  have hx := Bd.exec
  have hby := Bd.bytes
  have hml : c.maxLocals = 2 := hml0
  have hown : s.vm.findClass "java/lang/StringUTF16" = some m.cls := findClass_of_methodNamed Bd.named
  have hnm := (name_of_methodNamed Bd.named Bd.method).1
  have X0 : Stand p l e ({ frames := 0, cells := 0, slots := 0, locals := 0 } : Room) s m #[(.ref a1), (.int (4 : Int32))] below meth c s₁ [] 0 0 := Stand.of_body Bd
  have e0 : s₁.heap = h0 := by rw [← hh, Bd.state]; rfl
  have N0 := Fr.nil n0
  have KP0 : Keep h0 h0 [] := Keep.refl h0 _
  obtain ⟨G, hG⟩ : ∃ G : State, G = s₁.setTop (entryFrame m #[(.ref a1), (.int (4 : Int32))] 2) := ⟨_, rfl⟩
  have pre0 : ∀ t, Steps p.tables e below (s₁.setTop (mkF m 0 #[.val (.ref a1), .val (.int (4 : Int32))] [])) t → Steps p.tables e below G t := fun t k => hG ▸ castTop (ef_rm14_u m a1) k
  have K1 : ∀ t, Steps p.tables e below (s₁.setTop (mkF m 2 #[.val (.ref a1), .val (.int (4 : Int32))] [(.ref a1), (.int (4 : Int32))])) t → Steps p.tables e below G t := by
    intro t k
    refine pre0 t ?_
    refine XS.iloadN X0.here hx rfl (hb hby d14_0) rfl ?_
    refine XS.aloadN X0.here hx rfl (hb hby d14_1) rfl rfl ?_
    exact k
  obtain ⟨cl2, Ar2, -, S2, M2, -, -⟩ := id V1
  have K3 : ∀ t, Steps p.tables e below (s₁.setTop (mkF m 3 #[.val (.ref a1), .val (.int (4 : Int32))] [(.int (8 : Int32)), (.int (4 : Int32))])) t → Steps p.tables e below G t := by
    intro t k
    refine K1 t ?_
    refine X0.arraylength hx (by rw [e0]; exact Ar2.1) (State.isArrayOf_alike hZ.alike Ar2.2.1) (g := (mkF m 2 #[.val (.ref a1), .val (.int (4 : Int32))] [(.ref a1), (.int (4 : Int32))])) rfl rfl (hb hby d14_2) _ ?_
    rw [len_of S2 M2]
    exact k
  obtain ⟨fs, hr, hrun, hended, hW, hsame⟩ := X0.leave (v := some (.int (((((-4 : Int32).toUInt32 >>> ((31 : Int32) &&& 31).toUInt32).toInt32).toInt8.toInt32).toInt8.toInt32))) (fun h => by rw [Bd.returns] at h; cases h)
  have KF := K3
  rw [hG] at KF
  refine ⟨_, _, KF _ ?_, hrun, hended, _, _, rfl, ?_, ⟨_, rfl⟩, hW, hsame.mono (by decide) (by decide)⟩
  · refine XS.isub X0.here hx rfl (hb hby d14_3) rfl ?_
    refine XS.bipush X0.here hx rfl (hb hby d14_4) ?_
    refine XS.iushr X0.here hx rfl (hb hby d14_6) rfl ?_
    refine XS.i2b X0.here hx rfl (hb hby d14_7) rfl ?_
    show Steps p.tables e below (s₁.setTop (mkF m 8 #[.val (.ref a1), .val (.int (4 : Int32))] [(.int ((((-4 : Int32).toUInt32 >>> ((31 : Int32) &&& 31).toUInt32).toInt32).toInt8.toInt32))])) _
    exact retN X0 hx (t := .byte) Bd.returns (by simp) (hb hby d14_8) hr
  · show Q14_u a1 k1 vs h0 n0 _ s₁.heap _
    rw [e0]
    exact ⟨rfl, N0, rfl⟩
def Q6 (Z : State) (a1 : Addr) (ee0 ee1 ee2 ee3 : Int32) (h0 : Heap) (n0 : Nat) (v : Option Value) (h : Heap) (L : List Loc) : Prop := ∃ (b : Addr) (k : ClassId) (z co : Int32) (vs : List Value), v = none ∧ Fr n0 L ∧ Keep h0 h [a1] ∧ h0.size ≤ b ∧ Exa Z h a1 "java/lang/String" ∧ Fld Z h a1 "java/lang/String" "value" "[B" (.ref b) ∧ Fld Z h a1 "java/lang/String" "coder" "B" (.int co) ∧ Arv Z h b k .byte z vs (Value.int (0 : Int32)) ∧ own_sp z co vs ee0 ee1 ee2 ee3
theorem d6_0 : decode jdk_42_method_149_code 0 = .ok (.aload_n 0, 1) := by decide +kernel
theorem d6_1 : decode jdk_42_method_149_code 1 = .ok (.invokespecial 1, 3) := by decide +kernel
theorem d6_4 : decode jdk_42_method_149_code 4 = .ok (.iload_n 3, 1) := by decide +kernel
theorem d6_5 : decode jdk_42_method_149_code 5 = .ok (.ifCond .ne 22, 3) := by decide +kernel
theorem d6_8 : decode jdk_42_method_149_code 8 = .ok (.aload_n 0, 1) := by decide +kernel
theorem d6_9 : decode jdk_42_method_149_code 9 = .ok (.ldc 7, 2) := by decide +kernel
theorem d6_11 : decode jdk_42_method_149_code 11 = .ok (.getfield 9, 3) := by decide +kernel
theorem d6_14 : decode jdk_42_method_149_code 14 = .ok (.putfield 9, 3) := by decide +kernel
theorem d6_17 : decode jdk_42_method_149_code 17 = .ok (.aload_n 0, 1) := by decide +kernel
theorem d6_18 : decode jdk_42_method_149_code 18 = .ok (.ldc 7, 2) := by decide +kernel
theorem d6_20 : decode jdk_42_method_149_code 20 = .ok (.getfield 15, 3) := by decide +kernel
theorem d6_23 : decode jdk_42_method_149_code 23 = .ok (.putfield 15, 3) := by decide +kernel
theorem d6_26 : decode jdk_42_method_149_code 26 = .ok (.return_, 1) := by decide +kernel
theorem d6_27 : decode jdk_42_method_149_code 27 = .ok (.getstatic 38, 3) := by decide +kernel
theorem d6_30 : decode jdk_42_method_149_code 30 = .ok (.ifCond .eq 28, 3) := by decide +kernel
theorem d6_33 : decode jdk_42_method_149_code 33 = .ok (.aload_n 1, 1) := by decide +kernel
theorem d6_34 : decode jdk_42_method_149_code 34 = .ok (.iload_n 2, 1) := by decide +kernel
theorem d6_35 : decode jdk_42_method_149_code 35 = .ok (.iload_n 3, 1) := by decide +kernel
theorem d6_36 : decode jdk_42_method_149_code 36 = .ok (.invokestatic 177, 3) := by decide +kernel
theorem d6_39 : decode jdk_42_method_149_code 39 = .ok (.astore 5, 2) := by decide +kernel
theorem d6_41 : decode jdk_42_method_149_code 41 = .ok (.aload_n 0, 1) := by decide +kernel
theorem d6_42 : decode jdk_42_method_149_code 42 = .ok (.aload 5, 2) := by decide +kernel
theorem d6_44 : decode jdk_42_method_149_code 44 = .ok (.iload_n 3, 1) := by decide +kernel
theorem d6_45 : decode jdk_42_method_149_code 45 = .ok (.invokestatic 47, 3) := by decide +kernel
theorem d6_48 : decode jdk_42_method_149_code 48 = .ok (.putfield 15, 3) := by decide +kernel
theorem d6_51 : decode jdk_42_method_149_code 51 = .ok (.aload_n 0, 1) := by decide +kernel
theorem d6_52 : decode jdk_42_method_149_code 52 = .ok (.aload 5, 2) := by decide +kernel
theorem d6_54 : decode jdk_42_method_149_code 54 = .ok (.putfield 9, 3) := by decide +kernel
theorem d6_57 : decode jdk_42_method_149_code 57 = .ok (.return_, 1) := by decide +kernel
theorem d6_58 : decode jdk_42_method_149_code 58 = .ok (.aload_n 0, 1) := by decide +kernel
theorem d6_59 : decode jdk_42_method_149_code 59 = .ok (.iconst 1, 1) := by decide +kernel
theorem d6_60 : decode jdk_42_method_149_code 60 = .ok (.putfield 15, 3) := by decide +kernel
theorem d6_63 : decode jdk_42_method_149_code 63 = .ok (.aload_n 0, 1) := by decide +kernel
theorem d6_64 : decode jdk_42_method_149_code 64 = .ok (.aload_n 1, 1) := by decide +kernel
theorem d6_65 : decode jdk_42_method_149_code 65 = .ok (.iload_n 2, 1) := by decide +kernel
theorem d6_66 : decode jdk_42_method_149_code 66 = .ok (.iload_n 3, 1) := by decide +kernel
theorem d6_67 : decode jdk_42_method_149_code 67 = .ok (.invokestatic 180, 3) := by decide +kernel
theorem d6_70 : decode jdk_42_method_149_code 70 = .ok (.putfield 9, 3) := by decide +kernel
theorem d6_73 : decode jdk_42_method_149_code 73 = .ok (.return_, 1) := by decide +kernel
theorem pd_12 : parseMethodDescriptor "([BI)B" = some ⟨[(.array .byte), .int], some .byte⟩ := by decide +kernel
theorem ef_rm6 (m : MethodId) (x0 : Addr) (x1 : Addr) : entryFrame m #[(.ref x0), (.ref x1), (.int (0 : Int32)), (.int (4 : Int32)), .null] 6 = mkF m 0 #[.val (.ref x0), .val (.ref x1), .val (.int (0 : Int32)), .val (.int (4 : Int32)), .val .null, .unset] [] := by first | (simp [entryFrame, mkF, argsToLocals, Value.category]; done) | rfl
set_option maxRecDepth 65536 in
set_option maxHeartbeats 40000000 in
theorem rm6 (l : Launch) (Z : State) (a0 : Array Value) (hw : ∀ d ∈ tables_1, d.before a0 Z = true) (ws : List Jvm.Cond) (a1 a2 : Addr) (k2 : ClassId) (ee0 ee1 ee2 ee3 : Int32) (cs : Int32) (fv : Value) (h0 : Heap) (n0 : Nat) (Z0 : n0 ≤ h0.size) (E1 : Exa Z h0 a1 "java/lang/String") (F1 : Fld Z h0 a1 "java/lang/String" "value" "[B" .null) (F2 : Fld Z h0 a1 "java/lang/String" "coder" "B" (.int (0 : Int32))) (V2 : Arv Z h0 a2 k2 .char (4 : Int32) [(.int ee0), (.int ee1), (.int ee2), (.int ee3)] (Value.int (0 : Int32))) (ne12 : a1 ≠ a2) (g1 : n0 ≤ a1) (hr0 : 0 ≤ ee0.toInt ∧ ee0.toInt < 65536) (hr1 : 0 ≤ ee1.toInt ∧ ee1.toInt < 65536) (hr2 : 0 ≤ ee2.toInt ∧ ee2.toInt < 65536) (hr3 : 0 ≤ ee3.toInt ∧ ee3.toInt < 65536) (SC : Sta Z Z.heap "java/lang/String" "COMPACT_STRINGS" "Z" (.int cs)) (hcs : ¬ cs = 0) (SA : Sta Z Z.heap "java/lang/StringUTF16" "$assertionsDisabled" "Z" (.int (1 : Int32))) (SH : Sta Z Z.heap "java/lang/StringUTF16" "HI_BYTE_SHIFT" "I" (.int (0 : Int32))) (SL : Sta Z Z.heap "java/lang/StringUTF16" "LO_BYTE_SHIFT" "I" (.int (8 : Int32))) (SF : Sta Z Z.heap "jdk/internal/util/Preconditions" "SIOOBE_FORMATTER" "Ljava/util/function/BiFunction;" fv) (hfv : fv = .null ∨ ∃ a, fv = .ref a) (O0 : Old Z n0 h0) :
    MetFree l (⟨"java/lang/String", "<init>", "([CIILjava/lang/Void;)V"⟩ : MethodName) (head1 (Jvm.Cond.code (⟨"java/lang/String", "<init>", "([CIILjava/lang/Void;)V"⟩ : MethodName) jdk_42_method_149_code 6 none :: ws) ({ frames := 4, cells := 2, slots := 12, locals := 57 } : Room)) (fun a U => a = #[(.ref a1), (.ref a2), (.int (0 : Int32)), (.int (4 : Int32)), .null] ∧ Z.Warmed39 U.vm ∧ U.heap = h0) (fun _ _ _ _ _ => True) (fun _ U o U' => ∃ v L, o = .returned v ∧ Q6 Z a1 ee0 ee1 ee2 ee3 h0 n0 v U'.heap L ∧ FrameEnd U o U' L ({ frames := 4, cells := 2, slots := 12, locals := 57 } : Room).cells ({ frames := 4, cells := 2, slots := 12, locals := 57 } : Room).slots) := by
  refine MetFree.of_bodySF (plainFor_of_name pn_java_lang_String) hisR ?_
  intro p e s m args below meth c s₁ Bd hml0 hP hK
  obtain ⟨rfl, hZ, hh⟩ := hP
  have hx := Bd.exec
  have hby := Bd.bytes
  have hml : c.maxLocals = 6 := hml0
  have hown : s.vm.findClass "java/lang/String" = some m.cls := findClass_of_methodNamed Bd.named
  have hnm := (name_of_methodNamed Bd.named Bd.method).1
  have X0 : Stand p l e ({ frames := 4, cells := 2, slots := 12, locals := 57 } : Room) s m #[(.ref a1), (.ref a2), (.int (0 : Int32)), (.int (4 : Int32)), .null] below meth c s₁ [] 0 0 := Stand.of_body Bd
  have e0 : s₁.heap = h0 := by rw [← hh, Bd.state]; rfl
  have N0 := Fr.nil n0
  have KP0 : Keep h0 h0 [a1] := Keep.refl h0 _
  obtain ⟨G, hG⟩ : ∃ G : State, G = s₁.setTop (entryFrame m #[(.ref a1), (.ref a2), (.int (0 : Int32)), (.int (4 : Int32)), .null] 6) := ⟨_, rfl⟩
  have pre0 : ∀ t, Steps p.tables e below (s₁.setTop (mkF m 0 #[.val (.ref a1), .val (.ref a2), .val (.int (0 : Int32)), .val (.int (4 : Int32)), .val .null, .unset] [])) t → Steps p.tables e below G t := fun t k => hG ▸ castTop (ef_rm6 m a1 a2) k
  have K1 : ∀ t, Steps p.tables e below (s₁.setTop (mkF m 1 #[.val (.ref a1), .val (.ref a2), .val (.int (0 : Int32)), .val (.int (4 : Int32)), .val .null, .unset] [(.ref a1)])) t → Steps p.tables e below G t := by
    intro t k
    refine pre0 t ?_
    refine XS.aloadN X0.here hx rfl (hb hby d6_0) rfl rfl ?_
    exact k
  obtain ⟨T2, X2, e2, st2⟩ := initO X0 hx hZ hown (hw _ (List.mem_of_getElem? (i := 32) rfl)) (hw _ (List.mem_of_getElem? (i := 18) rfl)) (hw _ (List.mem_of_getElem? (i := 19) rfl)) e0 (g := (mkF m 1 #[.val (.ref a1), .val (.ref a2), .val (.int (0 : Int32)), .val (.int (4 : Int32)), .val .null, .unset] [(.ref a1)])) rfl (by rw [hml]; rfl) rfl (hb hby d6_1) (by decide) (W := 0) (by show 2 * 0 + _ ≤ _; exact Nat.le_of_eq rfl) (by decide)
  have K3 : ∀ t, Steps p.tables e below (T2.setTop (mkF m 4 #[.val (.ref a1), .val (.ref a2), .val (.int (0 : Int32)), .val (.int (4 : Int32)), .val .null, .unset] [])) t → Steps p.tables e below G t := fun t k => K1 t (st2 t k)
  have K4 : ∀ t, Steps p.tables e below (T2.setTop (mkF m 27 #[.val (.ref a1), .val (.ref a2), .val (.int (0 : Int32)), .val (.int (4 : Int32)), .val .null, .unset] [])) t → Steps p.tables e below G t := by
    intro t k
    refine K3 t ?_
    refine XS.iloadN X2.here hx rfl (hb hby d6_4) rfl ?_
    refine XS.ifYes X2.here hx rfl (pc0 := 5) (pc' := 27) rfl (hb hby d6_5) rfl ((if0 _ _).trans (feq (by decide)).2) (by decide) (by decide) ?_
    exact k
  obtain ⟨T5, X5, e5, st5⟩ := getS2 X2 hx hZ hown (host := "") (Or.inl (hw _ (List.mem_of_getElem? (i := 33) rfl))) Via.refl e2 (Sta.ext O0.2 SC) (g := (mkF m 27 #[.val (.ref a1), .val (.ref a2), .val (.int (0 : Int32)), .val (.int (4 : Int32)), .val .null, .unset] [])) rfl (hb hby d6_27)
  have K6 : ∀ t, Steps p.tables e below (T5.setTop (mkF m 30 #[.val (.ref a1), .val (.ref a2), .val (.int (0 : Int32)), .val (.int (4 : Int32)), .val .null, .unset] [(.int cs)])) t → Steps p.tables e below G t := fun t k => K4 t (st5 t k)
  have K7 : ∀ t, Steps p.tables e below (T5.setTop (mkF m 36 #[.val (.ref a1), .val (.ref a2), .val (.int (0 : Int32)), .val (.int (4 : Int32)), .val .null, .unset] [(.int (4 : Int32)), (.int (0 : Int32)), (.ref a2)])) t → Steps p.tables e below G t := by
    intro t k
    refine K6 t ?_
    refine XS.ifNo X5.here hx rfl (hb hby d6_30) rfl ((if0 _ _).trans (feq hcs).1) ?_
    refine XS.aloadN X5.here hx rfl (hb hby d6_33) rfl rfl ?_
    refine XS.iloadN X5.here hx rfl (hb hby d6_34) rfl ?_
    refine XS.iloadN X5.here hx rfl (hb hby d6_35) rfl ?_
    exact k
  obtain ⟨_, _, ⟨T8, L8, kk8, nn8⟩, -, X8, ⟨Lc8, hQ8, lq8, yq8, zq8⟩, st8⟩ := Jvm.LawKit.callS X5 hx (y := (⟨"java/lang/StringUTF16", "compress", "([CII)[B"⟩ : MethodName)) hown (mvT hZ (hw _ (List.mem_of_getElem? (i := 34) rfl))) (mvT hZ (hw _ (List.mem_of_getElem? (i := 35) rfl))) (mvT hZ (hw _ (List.mem_of_getElem? (i := 36) rfl))) (mvT hZ (hw _ (List.mem_of_getElem? (i := 37) rfl))) (by decide) (backOf (W := 0) (rm7 l Z a0 hw [] a2 k2 ee0 ee1 ee2 ee3 cs fv h0 n0 Z0 V2 hr0 hr1 hr2 hr3 SC hcs SA SH SL SF hfv O0) hZ (hw _ (List.mem_of_getElem? (i := 37) rfl)) (hw _ (List.mem_of_getElem? (i := 36) rfl)) (by decide) (by decide)) (g := (mkF m 36 #[.val (.ref a1), .val (.ref a2), .val (.int (0 : Int32)), .val (.int (4 : Int32)), .val .null, .unset] [(.int (4 : Int32)), (.int (0 : Int32)), (.ref a2)])) rfl (by rw [hml]; rfl) (argsL := [(.ref a2), (.int (0 : Int32)), (.int (4 : Int32))]) (rest := []) (lenOf pd_10 rfl) rfl (by show 2 * 0 + _ ≤ _; exact Nat.le_of_eq rfl) (hb hby d6_36) (fun _ _ => ⟨rfl, e5, (by decide : 0 + 2 ≤ _), (by decide : 0 + 12 ≤ _)⟩)
  dsimp only [Pt.U, Pt.locs, Pt.cells, Pt.slots] at X8 lq8 yq8 zq8 st8 hQ8
  subst lq8 yq8 zq8
  obtain ⟨b8, kb8, rfl, Nq8, K8, sz8, hd8⟩ := hQ8
  have N9 := Fr.app N0 Nq8
  have ne_a1_b8 : a1 ≠ b8 := Nat.ne_of_lt (Nat.lt_of_lt_of_le E1.lt sz8)
  have ne_a2_b8 : a2 ≠ b8 := Nat.ne_of_lt (Nat.lt_of_lt_of_le V2.lt sz8)
  have g_b8 : n0 ≤ b8 := Nat.le_trans Z0 sz8
  have sz_b8 : h0.size ≤ b8 := Nat.le_trans KP0.1 sz8
  have f10 := E1.keep K8
  have f11 := F1.keep K8 nin0
  have f12 := F2.keep K8 nin0
  have f13 := V2.keep K8 nin0
  have f14 := O0.keep K8 all0
  have Z15 : n0 ≤ T8.heap.size := Nat.le_trans Z0 K8.1
  have KP16 : Keep h0 T8.heap [a1] := KP0.trans K8 all0
  have K17 : ∀ t, Steps p.tables e below (T8.setTop (mkF m 39 #[.val (.ref a1), .val (.ref a2), .val (.int (0 : Int32)), .val (.int (4 : Int32)), .val .null, .unset] [(.ref b8)])) t → Steps p.tables e below G t := fun t k => K7 t (st8 _ k)
  rcases hd8 with ⟨hle, VL⟩ | VL
  · have K18 : ∀ t, Steps p.tables e below (T8.setTop (mkF m 45 #[.val (.ref a1), .val (.ref a2), .val (.int (0 : Int32)), .val (.int (4 : Int32)), .val .null, .val (.ref b8)] [(.int (4 : Int32)), (.ref b8), (.ref a1)])) t → Steps p.tables e below G t := by
      intro t k
      refine K17 t ?_
      refine XS.astore X8.here hx rfl (hb hby d6_39) rfl rfl (l' := #[.val (.ref a1), .val (.ref a2), .val (.int (0 : Int32)), .val (.int (4 : Int32)), .val .null, .val (.ref b8)]) rfl ?_
      refine XS.aloadN X8.here hx rfl (hb hby d6_41) rfl rfl ?_
      refine XS.aload X8.here hx rfl (hb hby d6_42) rfl rfl ?_
      refine XS.iloadN X8.here hx rfl (hb hby d6_44) rfl ?_
      exact k
    obtain ⟨_, _, ⟨T19, L19, kk19, nn19⟩, -, X19, ⟨Lc19, hQ19, lq19, yq19, zq19⟩, st19⟩ := Jvm.LawKit.callS X8 hx (y := (⟨"java/lang/StringUTF16", "coderFromArrayLen", "([BI)B"⟩ : MethodName)) hown (mvT hZ (hw _ (List.mem_of_getElem? (i := 61) rfl))) (mvT hZ (hw _ (List.mem_of_getElem? (i := 62) rfl))) (mvT hZ (hw _ (List.mem_of_getElem? (i := 36) rfl))) (mvT hZ (hw _ (List.mem_of_getElem? (i := 63) rfl))) (by decide) (backOf (W := 1) (rm14_l l Z a0 hw [] b8 kb8 [(.int (own_lb ee0)), (.int (own_lb ee1)), (.int (own_lb ee2)), (.int (own_lb ee3))] T8.heap n0 Z15 VL) hZ (hw _ (List.mem_of_getElem? (i := 63) rfl)) (hw _ (List.mem_of_getElem? (i := 36) rfl)) (by decide) (by decide)) (g := (mkF m 45 #[.val (.ref a1), .val (.ref a2), .val (.int (0 : Int32)), .val (.int (4 : Int32)), .val .null, .val (.ref b8)] [(.int (4 : Int32)), (.ref b8), (.ref a1)])) rfl (by rw [hml]; rfl) (argsL := [(.ref b8), (.int (4 : Int32))]) (rest := [(.ref a1)]) (lenOf pd_12 rfl) rfl (by show 2 * 0 + _ ≤ _; exact Nat.le_of_eq rfl) (hb hby d6_45) (fun _ _ => ⟨rfl, rfl, (by decide : 2 + 0 ≤ _), (by decide : 12 + 0 ≤ _)⟩)
    dsimp only [Pt.U, Pt.locs, Pt.cells, Pt.slots] at X19 lq19 yq19 zq19 st19 hQ19
    subst lq19 yq19 zq19
    obtain ⟨rfl, Nq19, e19⟩ := hQ19
    have N20 := Fr.app N9 Nq19
    have K21 : ∀ t, Steps p.tables e below (T19.setTop (mkF m 48 #[.val (.ref a1), .val (.ref a2), .val (.int (0 : Int32)), .val (.int (4 : Int32)), .val .null, .val (.ref b8)] [(.int (0 : Int32)), (.ref a1)])) t → Steps p.tables e below G t := fun t k => K18 t (st19 _ k)
    obtain ⟨T22, h22, X22, e22, W22, st22⟩ := putFN X19 hx hZ hown (hw _ (List.mem_of_getElem? (i := 64) rfl)) Via.refl e19 f12 f10 (Or.inr ⟨(hw _ (List.mem_of_getElem? (i := 65) rfl)), rfl, hnm⟩) (hw _ (List.mem_of_getElem? (i := 23) rfl)) (ty := .byte) (v' := (.int ((0 : Int32).toInt8.toInt32))) (by decide) rfl (fits_nar_byte _) (g := (mkF m 48 #[.val (.ref a1), .val (.ref a2), .val (.int (0 : Int32)), .val (.int (4 : Int32)), .val .null, .val (.ref b8)] [(.int (0 : Int32)), (.ref a1)])) rfl rfl (hb hby d6_48)
    have K23 : ∀ t, Steps p.tables e below (T22.setTop (mkF m 51 #[.val (.ref a1), .val (.ref a2), .val (.int (0 : Int32)), .val (.int (4 : Int32)), .val .null, .val (.ref b8)] [])) t → Steps p.tables e below G t := fun t k => K21 t (st22 t k)
    have f24 := f10.wr W22
    have f25 := f11.other W22 (Or.inr (slot_ne (Or.inr (hw _ (List.mem_of_getElem? (i := 67) rfl))) (Or.inr (hw _ (List.mem_of_getElem? (i := 65) rfl))) (by decide) (t := (.array .byte)) (t' := .byte) (by decide) (by decide)))
    have f26 := f12.same W22
    have f27 := f13.other W22 (Ne.symm ne12)
    have f28 := f14.wr W22 g1
    have f29 := VL.other W22 (Ne.symm ne_a1_b8)
    have Z30 : n0 ≤ h22.size := Nat.le_trans Z15 (Keep.of_wr W22).1
    have KP31 : Keep h0 h22 [a1] := KP16.wr W22 (Or.inl (List.mem_of_getElem? (i := 0) rfl))
    have N32 := Fr.snoc X22 N20 g1
    have K33 : ∀ t, Steps p.tables e below (T22.setTop (mkF m 54 #[.val (.ref a1), .val (.ref a2), .val (.int (0 : Int32)), .val (.int (4 : Int32)), .val .null, .val (.ref b8)] [(.ref b8), (.ref a1)])) t → Steps p.tables e below G t := by
      intro t k
      refine K23 t ?_
      refine XS.aloadN X22.here hx rfl (hb hby d6_51) rfl rfl ?_
      refine XS.aload X22.here hx rfl (hb hby d6_52) rfl rfl ?_
      exact k
    obtain ⟨T34, h34, X34, e34, W34, st34⟩ := putF X22 hx hZ hown (host := "") (Or.inl (hw _ (List.mem_of_getElem? (i := 66) rfl))) Via.refl e22 f25 f24 (Or.inr ⟨(hw _ (List.mem_of_getElem? (i := 67) rfl)), rfl, hnm⟩) (hw _ (List.mem_of_getElem? (i := 23) rfl)) (ty := (.array .byte)) (by decide) rfl rfl (g := (mkF m 54 #[.val (.ref a1), .val (.ref a2), .val (.int (0 : Int32)), .val (.int (4 : Int32)), .val .null, .val (.ref b8)] [(.ref b8), (.ref a1)])) rfl rfl (hb hby d6_54)
    have K35 : ∀ t, Steps p.tables e below (T34.setTop (mkF m 57 #[.val (.ref a1), .val (.ref a2), .val (.int (0 : Int32)), .val (.int (4 : Int32)), .val .null, .val (.ref b8)] [])) t → Steps p.tables e below G t := fun t k => K33 t (st34 t k)
    have f36 := f24.wr W34
    have f37 := f25.same W34
    have f38 := f26.other W34 (Or.inr (slot_ne (Or.inr (hw _ (List.mem_of_getElem? (i := 65) rfl))) (Or.inr (hw _ (List.mem_of_getElem? (i := 67) rfl))) (by decide) (t := .byte) (t' := (.array .byte)) (by decide) (by decide)))
    have f39 := f27.other W34 (Ne.symm ne12)
    have f40 := f28.wr W34 g1
    have f41 := f29.other W34 (Ne.symm ne_a1_b8)
    have Z42 : n0 ≤ h34.size := Nat.le_trans Z30 (Keep.of_wr W34).1
    have KP43 : Keep h0 h34 [a1] := KP31.wr W34 (Or.inl (List.mem_of_getElem? (i := 0) rfl))
    have N44 := Fr.snoc X34 N32 g1
    obtain ⟨fs, hr, hrun, hended, hW, hsame⟩ := X34.leave (v := none) (fun _ => rfl)
    have KF := K35
    rw [hG] at KF
    refine ⟨_, _, KF _ ?_, hrun, hended, _, _, rfl, ?_, ⟨_, rfl⟩, hW, hsame.mono (by decide) (by decide)⟩
    · show Steps p.tables e below (T34.setTop (mkF m 57 #[.val (.ref a1), .val (.ref a2), .val (.int (0 : Int32)), .val (.int (4 : Int32)), .val .null, .val (.ref b8)] [])) _
      exact X34.returnOut hx Bd.returns (hb hby d6_57) hr
    · show Q6 Z a1 ee0 ee1 ee2 ee3 h0 n0 _ T34.heap _
      rw [e34]
      exact ⟨b8, _, _, _, _, rfl, N44, KP43, sz_b8, f36, f37, f38, f41, Or.inl ⟨rfl, rfl, rfl, hle⟩⟩
  · have K45 : ∀ t, Steps p.tables e below (T8.setTop (mkF m 45 #[.val (.ref a1), .val (.ref a2), .val (.int (0 : Int32)), .val (.int (4 : Int32)), .val .null, .val (.ref b8)] [(.int (4 : Int32)), (.ref b8), (.ref a1)])) t → Steps p.tables e below G t := by
      intro t k
      refine K17 t ?_
      refine XS.astore X8.here hx rfl (hb hby d6_39) rfl rfl (l' := #[.val (.ref a1), .val (.ref a2), .val (.int (0 : Int32)), .val (.int (4 : Int32)), .val .null, .val (.ref b8)]) rfl ?_
      refine XS.aloadN X8.here hx rfl (hb hby d6_41) rfl rfl ?_
      refine XS.aload X8.here hx rfl (hb hby d6_42) rfl rfl ?_
      refine XS.iloadN X8.here hx rfl (hb hby d6_44) rfl ?_
      exact k
    obtain ⟨_, _, ⟨T46, L46, kk46, nn46⟩, -, X46, ⟨Lc46, hQ46, lq46, yq46, zq46⟩, st46⟩ := Jvm.LawKit.callS X8 hx (y := (⟨"java/lang/StringUTF16", "coderFromArrayLen", "([BI)B"⟩ : MethodName)) hown (mvT hZ (hw _ (List.mem_of_getElem? (i := 61) rfl))) (mvT hZ (hw _ (List.mem_of_getElem? (i := 62) rfl))) (mvT hZ (hw _ (List.mem_of_getElem? (i := 36) rfl))) (mvT hZ (hw _ (List.mem_of_getElem? (i := 63) rfl))) (by decide) (backOf (W := 1) (rm14_u l Z a0 hw [] b8 kb8 [(.int (own_b0 ee0)), (.int (own_b1 ee0)), (.int (own_b0 ee1)), (.int (own_b1 ee1)), (.int (own_b0 ee2)), (.int (own_b1 ee2)), (.int (own_b0 ee3)), (.int (own_b1 ee3))] T8.heap n0 Z15 VL) hZ (hw _ (List.mem_of_getElem? (i := 63) rfl)) (hw _ (List.mem_of_getElem? (i := 36) rfl)) (by decide) (by decide)) (g := (mkF m 45 #[.val (.ref a1), .val (.ref a2), .val (.int (0 : Int32)), .val (.int (4 : Int32)), .val .null, .val (.ref b8)] [(.int (4 : Int32)), (.ref b8), (.ref a1)])) rfl (by rw [hml]; rfl) (argsL := [(.ref b8), (.int (4 : Int32))]) (rest := [(.ref a1)]) (lenOf pd_12 rfl) rfl (by show 2 * 0 + _ ≤ _; exact Nat.le_of_eq rfl) (hb hby d6_45) (fun _ _ => ⟨rfl, rfl, (by decide : 2 + 0 ≤ _), (by decide : 12 + 0 ≤ _)⟩)
    dsimp only [Pt.U, Pt.locs, Pt.cells, Pt.slots] at X46 lq46 yq46 zq46 st46 hQ46
    subst lq46 yq46 zq46
    obtain ⟨rfl, Nq46, e46⟩ := hQ46
    have N47 := Fr.app N9 Nq46
    have K48 : ∀ t, Steps p.tables e below (T46.setTop (mkF m 48 #[.val (.ref a1), .val (.ref a2), .val (.int (0 : Int32)), .val (.int (4 : Int32)), .val .null, .val (.ref b8)] [(.int (1 : Int32)), (.ref a1)])) t → Steps p.tables e below G t := fun t k => K45 t (st46 _ k)
    obtain ⟨T49, h49, X49, e49, W49, st49⟩ := putFN X46 hx hZ hown (hw _ (List.mem_of_getElem? (i := 64) rfl)) Via.refl e46 f12 f10 (Or.inr ⟨(hw _ (List.mem_of_getElem? (i := 65) rfl)), rfl, hnm⟩) (hw _ (List.mem_of_getElem? (i := 23) rfl)) (ty := .byte) (v' := (.int ((1 : Int32).toInt8.toInt32))) (by decide) rfl (fits_nar_byte _) (g := (mkF m 48 #[.val (.ref a1), .val (.ref a2), .val (.int (0 : Int32)), .val (.int (4 : Int32)), .val .null, .val (.ref b8)] [(.int (1 : Int32)), (.ref a1)])) rfl rfl (hb hby d6_48)
    have K50 : ∀ t, Steps p.tables e below (T49.setTop (mkF m 51 #[.val (.ref a1), .val (.ref a2), .val (.int (0 : Int32)), .val (.int (4 : Int32)), .val .null, .val (.ref b8)] [])) t → Steps p.tables e below G t := fun t k => K48 t (st49 t k)
    have f51 := f10.wr W49
    have f52 := f11.other W49 (Or.inr (slot_ne (Or.inr (hw _ (List.mem_of_getElem? (i := 67) rfl))) (Or.inr (hw _ (List.mem_of_getElem? (i := 65) rfl))) (by decide) (t := (.array .byte)) (t' := .byte) (by decide) (by decide)))
    have f53 := f12.same W49
    have f54 := f13.other W49 (Ne.symm ne12)
    have f55 := f14.wr W49 g1
    have f56 := VL.other W49 (Ne.symm ne_a1_b8)
    have Z57 : n0 ≤ h49.size := Nat.le_trans Z15 (Keep.of_wr W49).1
    have KP58 : Keep h0 h49 [a1] := KP16.wr W49 (Or.inl (List.mem_of_getElem? (i := 0) rfl))
    have N59 := Fr.snoc X49 N47 g1
    have K60 : ∀ t, Steps p.tables e below (T49.setTop (mkF m 54 #[.val (.ref a1), .val (.ref a2), .val (.int (0 : Int32)), .val (.int (4 : Int32)), .val .null, .val (.ref b8)] [(.ref b8), (.ref a1)])) t → Steps p.tables e below G t := by
      intro t k
      refine K50 t ?_
      refine XS.aloadN X49.here hx rfl (hb hby d6_51) rfl rfl ?_
      refine XS.aload X49.here hx rfl (hb hby d6_52) rfl rfl ?_
      exact k
    obtain ⟨T61, h61, X61, e61, W61, st61⟩ := putF X49 hx hZ hown (host := "") (Or.inl (hw _ (List.mem_of_getElem? (i := 66) rfl))) Via.refl e49 f52 f51 (Or.inr ⟨(hw _ (List.mem_of_getElem? (i := 67) rfl)), rfl, hnm⟩) (hw _ (List.mem_of_getElem? (i := 23) rfl)) (ty := (.array .byte)) (by decide) rfl rfl (g := (mkF m 54 #[.val (.ref a1), .val (.ref a2), .val (.int (0 : Int32)), .val (.int (4 : Int32)), .val .null, .val (.ref b8)] [(.ref b8), (.ref a1)])) rfl rfl (hb hby d6_54)
    have K62 : ∀ t, Steps p.tables e below (T61.setTop (mkF m 57 #[.val (.ref a1), .val (.ref a2), .val (.int (0 : Int32)), .val (.int (4 : Int32)), .val .null, .val (.ref b8)] [])) t → Steps p.tables e below G t := fun t k => K60 t (st61 t k)
    have f63 := f51.wr W61
    have f64 := f52.same W61
    have f65 := f53.other W61 (Or.inr (slot_ne (Or.inr (hw _ (List.mem_of_getElem? (i := 65) rfl))) (Or.inr (hw _ (List.mem_of_getElem? (i := 67) rfl))) (by decide) (t := .byte) (t' := (.array .byte)) (by decide) (by decide)))
    have f66 := f54.other W61 (Ne.symm ne12)
    have f67 := f55.wr W61 g1
    have f68 := f56.other W61 (Ne.symm ne_a1_b8)
    have Z69 : n0 ≤ h61.size := Nat.le_trans Z57 (Keep.of_wr W61).1
    have KP70 : Keep h0 h61 [a1] := KP58.wr W61 (Or.inl (List.mem_of_getElem? (i := 0) rfl))
    have N71 := Fr.snoc X61 N59 g1
    obtain ⟨fs, hr, hrun, hended, hW, hsame⟩ := X61.leave (v := none) (fun _ => rfl)
    have KF := K62
    rw [hG] at KF
    refine ⟨_, _, KF _ ?_, hrun, hended, _, _, rfl, ?_, ⟨_, rfl⟩, hW, hsame.mono (by decide) (by decide)⟩
    · show Steps p.tables e below (T61.setTop (mkF m 57 #[.val (.ref a1), .val (.ref a2), .val (.int (0 : Int32)), .val (.int (4 : Int32)), .val .null, .val (.ref b8)] [])) _
      exact X61.returnOut hx Bd.returns (hb hby d6_57) hr
    · show Q6 Z a1 ee0 ee1 ee2 ee3 h0 n0 _ T61.heap _
      rw [e61]
      exact ⟨b8, _, _, _, _, rfl, N71, KP70, sz_b8, f63, f64, f65, f68, Or.inr ⟨rfl, rfl, rfl⟩⟩
def Q5 (Z : State) (a1 : Addr) (ee0 ee1 ee2 ee3 : Int32) (h0 : Heap) (n0 : Nat) (v : Option Value) (h : Heap) (L : List Loc) : Prop := ∃ (b : Addr) (k : ClassId) (z co : Int32) (vs : List Value), v = none ∧ Fr n0 L ∧ Keep h0 h [a1] ∧ h0.size ≤ b ∧ Exa Z h a1 "java/lang/String" ∧ Fld Z h a1 "java/lang/String" "value" "[B" (.ref b) ∧ Fld Z h a1 "java/lang/String" "coder" "B" (.int co) ∧ Arv Z h b k .byte z vs (Value.int (0 : Int32)) ∧ own_sp z co vs ee0 ee1 ee2 ee3
theorem d5_0 : decode jdk_42_method_3_code 0 = .ok (.aload_n 0, 1) := by decide +kernel
theorem d5_1 : decode jdk_42_method_3_code 1 = .ok (.aload_n 1, 1) := by decide +kernel
theorem d5_2 : decode jdk_42_method_3_code 2 = .ok (.iconst 0, 1) := by decide +kernel
theorem d5_3 : decode jdk_42_method_3_code 3 = .ok (.aload_n 1, 1) := by decide +kernel
theorem d5_4 : decode jdk_42_method_3_code 4 = .ok (.arraylength, 1) := by decide +kernel
theorem d5_5 : decode jdk_42_method_3_code 5 = .ok (.aconst_null, 1) := by decide +kernel
theorem d5_6 : decode jdk_42_method_3_code 6 = .ok (.invokespecial 27, 3) := by decide +kernel
theorem d5_9 : decode jdk_42_method_3_code 9 = .ok (.return_, 1) := by decide +kernel
theorem pd_13 : parseMethodDescriptor "([CIILjava/lang/Void;)V" = some ⟨[(.array .char), .int, .int, (.object "java/lang/Void")], none⟩ := by decide +kernel
theorem ef_rm5 (m : MethodId) (x0 : Addr) (x1 : Addr) : entryFrame m #[(.ref x0), (.ref x1)] 2 = mkF m 0 #[.val (.ref x0), .val (.ref x1)] [] := by first | (simp [entryFrame, mkF, argsToLocals, Value.category]; done) | rfl
set_option maxRecDepth 65536 in
set_option maxHeartbeats 40000000 in
theorem rm5 (l : Launch) (Z : State) (a0 : Array Value) (hw : ∀ d ∈ tables_1, d.before a0 Z = true) (ws : List Jvm.Cond) (a1 a2 : Addr) (k2 : ClassId) (ee0 ee1 ee2 ee3 : Int32) (cs : Int32) (fv : Value) (h0 : Heap) (n0 : Nat) (Z0 : n0 ≤ h0.size) (E1 : Exa Z h0 a1 "java/lang/String") (F1 : Fld Z h0 a1 "java/lang/String" "value" "[B" .null) (F2 : Fld Z h0 a1 "java/lang/String" "coder" "B" (.int (0 : Int32))) (V2 : Arv Z h0 a2 k2 .char (4 : Int32) [(.int ee0), (.int ee1), (.int ee2), (.int ee3)] (Value.int (0 : Int32))) (ne12 : a1 ≠ a2) (g1 : n0 ≤ a1) (hr0 : 0 ≤ ee0.toInt ∧ ee0.toInt < 65536) (hr1 : 0 ≤ ee1.toInt ∧ ee1.toInt < 65536) (hr2 : 0 ≤ ee2.toInt ∧ ee2.toInt < 65536) (hr3 : 0 ≤ ee3.toInt ∧ ee3.toInt < 65536) (SC : Sta Z Z.heap "java/lang/String" "COMPACT_STRINGS" "Z" (.int cs)) (hcs : ¬ cs = 0) (SA : Sta Z Z.heap "java/lang/StringUTF16" "$assertionsDisabled" "Z" (.int (1 : Int32))) (SH : Sta Z Z.heap "java/lang/StringUTF16" "HI_BYTE_SHIFT" "I" (.int (0 : Int32))) (SL : Sta Z Z.heap "java/lang/StringUTF16" "LO_BYTE_SHIFT" "I" (.int (8 : Int32))) (SF : Sta Z Z.heap "jdk/internal/util/Preconditions" "SIOOBE_FORMATTER" "Ljava/util/function/BiFunction;" fv) (hfv : fv = .null ∨ ∃ a, fv = .ref a) (O0 : Old Z n0 h0) :
    MetFree l (⟨"java/lang/String", "<init>", "([C)V"⟩ : MethodName) (head1 (Jvm.Cond.code (⟨"java/lang/String", "<init>", "([C)V"⟩ : MethodName) jdk_42_method_3_code 2 none :: ws) ({ frames := 5, cells := 2, slots := 12, locals := 74 } : Room)) (fun a U => a = #[(.ref a1), (.ref a2)] ∧ Z.Warmed39 U.vm ∧ U.heap = h0) (fun _ _ _ _ _ => True) (fun _ U o U' => ∃ v L, o = .returned v ∧ Q5 Z a1 ee0 ee1 ee2 ee3 h0 n0 v U'.heap L ∧ FrameEnd U o U' L ({ frames := 5, cells := 2, slots := 12, locals := 74 } : Room).cells ({ frames := 5, cells := 2, slots := 12, locals := 74 } : Room).slots) := by
  refine MetFree.of_bodySF (plainFor_of_name pn_java_lang_String) hisR ?_
  intro p e s m args below meth c s₁ Bd hml0 hP hK
  obtain ⟨rfl, hZ, hh⟩ := hP
  have hx := Bd.exec
  have hby := Bd.bytes
  have hml : c.maxLocals = 2 := hml0
  have hown : s.vm.findClass "java/lang/String" = some m.cls := findClass_of_methodNamed Bd.named
  have hnm := (name_of_methodNamed Bd.named Bd.method).1
  have X0 : Stand p l e ({ frames := 5, cells := 2, slots := 12, locals := 74 } : Room) s m #[(.ref a1), (.ref a2)] below meth c s₁ [] 0 0 := Stand.of_body Bd
  have e0 : s₁.heap = h0 := by rw [← hh, Bd.state]; rfl
  have N0 := Fr.nil n0
  have KP0 : Keep h0 h0 [a1] := Keep.refl h0 _
  obtain ⟨G, hG⟩ : ∃ G : State, G = s₁.setTop (entryFrame m #[(.ref a1), (.ref a2)] 2) := ⟨_, rfl⟩
  have pre0 : ∀ t, Steps p.tables e below (s₁.setTop (mkF m 0 #[.val (.ref a1), .val (.ref a2)] [])) t → Steps p.tables e below G t := fun t k => hG ▸ castTop (ef_rm5 m a1 a2) k
  have K1 : ∀ t, Steps p.tables e below (s₁.setTop (mkF m 4 #[.val (.ref a1), .val (.ref a2)] [(.ref a2), (.int (0 : Int32)), (.ref a2), (.ref a1)])) t → Steps p.tables e below G t := by
    intro t k
    refine pre0 t ?_
    refine XS.aloadN X0.here hx rfl (hb hby d5_0) rfl rfl ?_
    refine XS.aloadN X0.here hx rfl (hb hby d5_1) rfl rfl ?_
    refine XS.iconst X0.here hx rfl (hb hby d5_2) ?_
    refine XS.aloadN X0.here hx rfl (hb hby d5_3) rfl rfl ?_
    exact k
  obtain ⟨cl2, Ar2, -, S2, M2, -, -⟩ := id V2
  have K3 : ∀ t, Steps p.tables e below (s₁.setTop (mkF m 5 #[.val (.ref a1), .val (.ref a2)] [(.int (4 : Int32)), (.int (0 : Int32)), (.ref a2), (.ref a1)])) t → Steps p.tables e below G t := by
    intro t k
    refine K1 t ?_
    refine X0.arraylength hx (by rw [e0]; exact Ar2.1) (State.isArrayOf_alike hZ.alike Ar2.2.1) (g := (mkF m 4 #[.val (.ref a1), .val (.ref a2)] [(.ref a2), (.int (0 : Int32)), (.ref a2), (.ref a1)])) rfl rfl (hb hby d5_4) _ ?_
    rw [len_of S2 M2]
    exact k
  have K4 : ∀ t, Steps p.tables e below (s₁.setTop (mkF m 6 #[.val (.ref a1), .val (.ref a2)] [.null, (.int (4 : Int32)), (.int (0 : Int32)), (.ref a2), (.ref a1)])) t → Steps p.tables e below G t := by
    intro t k
    refine K3 t ?_
    refine XS.aconstNull X0.here hx rfl (hb hby d5_5) ?_
    exact k
  obtain ⟨_, _, ⟨T5, L5, kk5, nn5⟩, -, X5, ⟨Lc5, hQ5, lq5, yq5, zq5⟩, st5⟩ := X0.specialBack hx (y := (⟨"java/lang/String", "<init>", "([CIILjava/lang/Void;)V"⟩ : MethodName)) rfl hown (mvT hZ (hw _ (List.mem_of_getElem? (i := 28) rfl))) (mvT hZ (hw _ (List.mem_of_getElem? (i := 29) rfl))) (mvT hZ (hw _ (List.mem_of_getElem? (i := 31) rfl))) (by decide) (backOf (W := 0) (rm6 l Z a0 hw [] a1 a2 k2 ee0 ee1 ee2 ee3 cs fv h0 n0 Z0 E1 F1 F2 V2 ne12 g1 hr0 hr1 hr2 hr3 SC hcs SA SH SL SF hfv O0) hZ (hw _ (List.mem_of_getElem? (i := 31) rfl)) (hw _ (List.mem_of_getElem? (i := 24) rfl)) (by decide) (by decide)) (g := (mkF m 6 #[.val (.ref a1), .val (.ref a2)] [.null, (.int (4 : Int32)), (.int (0 : Int32)), (.ref a2), (.ref a1)])) rfl (by rw [hml]; rfl) (Steps.refl _) (a := a1) (argsL := [(.ref a2), (.int (0 : Int32)), (.int (4 : Int32)), .null]) (rest := []) (lenOf pd_13 rfl) rfl (by show 2 * 0 + _ ≤ _; exact Nat.le_of_eq rfl) (hb hby d5_6) (fun _ _ => ⟨rfl, e0, (by decide : 0 + 2 ≤ _), (by decide : 0 + 12 ≤ _)⟩)
  dsimp only [Pt.U, Pt.locs, Pt.cells, Pt.slots] at X5 lq5 yq5 zq5 st5 hQ5
  subst lq5 yq5 zq5
  obtain ⟨b5, kb5, zb5, co5, vb5, rfl, Nq5, K5, sz5, E5', Fv5, Fc5, Vb5, hsp5⟩ := hQ5
  have N6 := Fr.app N0 Nq5
  have ne_a1_b5 : a1 ≠ b5 := Nat.ne_of_lt (Nat.lt_of_lt_of_le E1.lt sz5)
  have ne_a2_b5 : a2 ≠ b5 := Nat.ne_of_lt (Nat.lt_of_lt_of_le V2.lt sz5)
  have g_b5 : n0 ≤ b5 := Nat.le_trans Z0 sz5
  have sz_b5 : h0.size ≤ b5 := Nat.le_trans KP0.1 sz5
  have f7 := E1.keep K5
  have f8 := V2.keep K5 (ninS (Ne.symm ne12) nin0)
  have f9 := O0.keep K5 (allS g1 all0)
  have Z10 : n0 ≤ T5.heap.size := Nat.le_trans Z0 K5.1
  have KP11 : Keep h0 T5.heap [a1] := KP0.trans K5 (allS (Or.inl (List.mem_of_getElem? (i := 0) rfl)) all0)
  have K12 : ∀ t, Steps p.tables e below (T5.setTop (mkF m 9 #[.val (.ref a1), .val (.ref a2)] [])) t → Steps p.tables e below G t := fun t k => K4 t (st5.trans k)
  obtain ⟨fs, hr, hrun, hended, hW, hsame⟩ := X5.leave (v := none) (fun _ => rfl)
  have KF := K12
  rw [hG] at KF
  refine ⟨_, _, KF _ ?_, hrun, hended, _, _, rfl, ?_, ⟨_, rfl⟩, hW, hsame.mono (by decide) (by decide)⟩
  · show Steps p.tables e below (T5.setTop (mkF m 9 #[.val (.ref a1), .val (.ref a2)] [])) _
    exact X5.returnOut hx Bd.returns (hb hby d5_9) hr
  · show Q5 Z a1 ee0 ee1 ee2 ee3 h0 n0 _ T5.heap _
    exact ⟨b5, _, _, _, _, rfl, N6, KP11, sz_b5, E5', Fv5, Fc5, Vb5, hsp5⟩
theorem own_l16 {l : List Value} {i : Nat} {v : Value} (h : 16 ≤ l.length) : 16 ≤ (l.set i v).length := by rw [List.length_set]; exact h
theorem own_lt4 {z : Int32} (h : ¬ z < 4) (i : Int32) (hi : ¬ i < 0 ∧ i < 4) : ¬ i < 0 ∧ i < z := ⟨hi.1, by have a := hi.2; rw [Int32.lt_iff_toInt_lt] at *; omega⟩
def Q41 (Z : State) (d : Addr) (kd : ClassId) (z : Int32) (c0 c1 c2 c3 : Int32) (h0 : Heap) (n0 : Nat) (v : Option Value) (h : Heap) (L : List Loc) : Prop := ∃ vs' : List Value, v = none ∧ Fr n0 L ∧ Keep h0 h [d] ∧ Arv Z h d kd .char z vs' (Value.int (0 : Int32)) ∧ vs'.getD 0 (Value.int (0 : Int32)) = .int (own_gl c0) ∧ vs'.getD 1 (Value.int (0 : Int32)) = .int (own_gl c1) ∧ vs'.getD 2 (Value.int (0 : Int32)) = .int (own_gl c2) ∧ vs'.getD 3 (Value.int (0 : Int32)) = .int (own_gl c3)
theorem d41_0 : decode jdk_43_method_49_code 0 = .ok (.iconst 0, 1) := by decide +kernel
theorem d41_1 : decode jdk_43_method_49_code 1 = .ok (.istore 5, 2) := by decide +kernel
theorem d41_3 : decode jdk_43_method_49_code 3 = .ok (.iload 5, 2) := by decide +kernel
theorem d41_5 : decode jdk_43_method_49_code 5 = .ok (.iload 4, 2) := by decide +kernel
theorem d41_7 : decode jdk_43_method_49_code 7 = .ok (.if_icmp .ge 26, 3) := by decide +kernel
theorem d41_10 : decode jdk_43_method_49_code 10 = .ok (.aload_n 2, 1) := by decide +kernel
theorem d41_11 : decode jdk_43_method_49_code 11 = .ok (.iload_n 3, 1) := by decide +kernel
theorem d41_12 : decode jdk_43_method_49_code 12 = .ok (.iinc 3 1, 3) := by decide +kernel
theorem d41_15 : decode jdk_43_method_49_code 15 = .ok (.aload_n 0, 1) := by decide +kernel
theorem d41_16 : decode jdk_43_method_49_code 16 = .ok (.iload_n 1, 1) := by decide +kernel
theorem d41_17 : decode jdk_43_method_49_code 17 = .ok (.iinc 1 1, 3) := by decide +kernel
theorem d41_20 : decode jdk_43_method_49_code 20 = .ok (.baload, 1) := by decide +kernel
theorem d41_21 : decode jdk_43_method_49_code 21 = .ok (.sipush 255, 3) := by decide +kernel
theorem d41_24 : decode jdk_43_method_49_code 24 = .ok (.iand, 1) := by decide +kernel
theorem d41_25 : decode jdk_43_method_49_code 25 = .ok (.i2c, 1) := by decide +kernel
theorem d41_26 : decode jdk_43_method_49_code 26 = .ok (.castore, 1) := by decide +kernel
theorem d41_27 : decode jdk_43_method_49_code 27 = .ok (.iinc 5 1, 3) := by decide +kernel
theorem d41_30 : decode jdk_43_method_49_code 30 = .ok (.goto (-27), 3) := by decide +kernel
theorem d41_33 : decode jdk_43_method_49_code 33 = .ok (.return_, 1) := by decide +kernel
theorem pn_java_lang_StringLatin1 : plainName "java/lang/StringLatin1" = true := by first | (simp [plainName, overriddenIn]; done) | decide +kernel
theorem ef_rm41 (m : MethodId) (x0 : Addr) (x2 : Addr) : entryFrame m #[(.ref x0), (.int (0 : Int32)), (.ref x2), (.int (0 : Int32)), (.int (4 : Int32))] 6 = mkF m 0 #[.val (.ref x0), .val (.int (0 : Int32)), .val (.ref x2), .val (.int (0 : Int32)), .val (.int (4 : Int32)), .unset] [] := by first | (simp [entryFrame, mkF, argsToLocals, Value.category]; done) | rfl
set_option maxRecDepth 65536 in
set_option maxHeartbeats 40000000 in
theorem rm41 (l : Launch) (Z : State) (a0 : Array Value) (hw : ∀ d ∈ tables_1, d.before a0 Z = true) (ws : List Jvm.Cond) (a1 : Addr) (k1 : ClassId) (c0 c1 c2 c3 : Int32) (d : Addr) (kd : ClassId) (z : Int32) (vs : List Value) (h0 : Heap) (n0 : Nat) (Z0 : n0 ≤ h0.size) (V1 : Arv Z h0 a1 k1 .byte (4 : Int32) [(.int c0), (.int c1), (.int c2), (.int c3)] (Value.int (0 : Int32))) (VD : Arv Z h0 d kd .char z vs (Value.int (0 : Int32))) (ned : a1 ≠ d) (gd : n0 ≤ d) (hq4 : ¬ z < 4) :
    MetFree l (⟨"java/lang/StringLatin1", "inflate", "([BI[CII)V"⟩ : MethodName) (head1 (Jvm.Cond.code (⟨"java/lang/StringLatin1", "inflate", "([BI[CII)V"⟩ : MethodName) jdk_43_method_49_code 6 none :: ws) ({ frames := 0, cells := 0, slots := 0, locals := 0 } : Room)) (fun a U => a = #[(.ref a1), (.int (0 : Int32)), (.ref d), (.int (0 : Int32)), (.int (4 : Int32))] ∧ Z.Warmed39 U.vm ∧ U.heap = h0) (fun _ _ _ _ _ => True) (fun _ U o U' => ∃ v L, o = .returned v ∧ Q41 Z d kd z c0 c1 c2 c3 h0 n0 v U'.heap L ∧ FrameEnd U o U' L ({ frames := 0, cells := 0, slots := 0, locals := 0 } : Room).cells ({ frames := 0, cells := 0, slots := 0, locals := 0 } : Room).slots) := by
  refine MetFree.of_bodySF (plainFor_of_name pn_java_lang_StringLatin1) hisR ?_
  intro p e s m args below meth c s₁ Bd hml0 hP hK
  obtain ⟨rfl, hZ, hh⟩ := hP
  have hx := Bd.exec
  have hby := Bd.bytes
  have hml : c.maxLocals = 6 := hml0
  have hown : s.vm.findClass "java/lang/StringLatin1" = some m.cls := findClass_of_methodNamed Bd.named
  have hnm := (name_of_methodNamed Bd.named Bd.method).1
  have X0 : Stand p l e ({ frames := 0, cells := 0, slots := 0, locals := 0 } : Room) s m #[(.ref a1), (.int (0 : Int32)), (.ref d), (.int (0 : Int32)), (.int (4 : Int32))] below meth c s₁ [] 0 0 := Stand.of_body Bd
  have e0 : s₁.heap = h0 := by rw [← hh, Bd.state]; rfl
  have N0 := Fr.nil n0
  have KP0 : Keep h0 h0 [d] := Keep.refl h0 _
  obtain ⟨G, hG⟩ : ∃ G : State, G = s₁.setTop (entryFrame m #[(.ref a1), (.int (0 : Int32)), (.ref d), (.int (0 : Int32)), (.int (4 : Int32))] 6) := ⟨_, rfl⟩
  have pre0 : ∀ t, Steps p.tables e below (s₁.setTop (mkF m 0 #[.val (.ref a1), .val (.int (0 : Int32)), .val (.ref d), .val (.int (0 : Int32)), .val (.int (4 : Int32)), .unset] [])) t → Steps p.tables e below G t := fun t k => hG ▸ castTop (ef_rm41 m a1 d) k
  have K1 : ∀ t, Steps p.tables e below (s₁.setTop (mkF m 20 #[.val (.ref a1), .val (.int (1 : Int32)), .val (.ref d), .val (.int (1 : Int32)), .val (.int (4 : Int32)), .val (.int (0 : Int32))] [(.int (0 : Int32)), (.ref a1), (.int (0 : Int32)), (.ref d)])) t → Steps p.tables e below G t := by
    intro t k
    refine pre0 t ?_
    refine XS.iconst X0.here hx rfl (hb hby d41_0) ?_
    refine XS.istore X0.here hx rfl (hb hby d41_1) rfl (l' := #[.val (.ref a1), .val (.int (0 : Int32)), .val (.ref d), .val (.int (0 : Int32)), .val (.int (4 : Int32)), .val (.int (0 : Int32))]) rfl ?_
    refine XS.iload X0.here hx rfl (hb hby d41_3) rfl ?_
    refine XS.iload X0.here hx rfl (hb hby d41_5) rfl ?_
    refine XS.icmpNo X0.here hx rfl (hb hby d41_7) rfl (tlt (by decide)).2.1 ?_
    refine XS.aloadN X0.here hx rfl (hb hby d41_10) rfl rfl ?_
    refine XS.iloadN X0.here hx rfl (hb hby d41_11) rfl ?_
    refine XS.iinc X0.here hx rfl (hb hby d41_12) rfl (l' := #[.val (.ref a1), .val (.int (0 : Int32)), .val (.ref d), .val (.int (1 : Int32)), .val (.int (4 : Int32)), .val (.int (0 : Int32))]) rfl ?_
    refine XS.aloadN X0.here hx rfl (hb hby d41_15) rfl rfl ?_
    refine XS.iloadN X0.here hx rfl (hb hby d41_16) rfl ?_
    refine XS.iinc X0.here hx rfl (hb hby d41_17) rfl (l' := #[.val (.ref a1), .val (.int (1 : Int32)), .val (.ref d), .val (.int (1 : Int32)), .val (.int (4 : Int32)), .val (.int (0 : Int32))]) rfl ?_
    exact k
  obtain ⟨cl2, Ar2, qc2, S2, M2, Ha2, Ga2⟩ := id V1
  have hin2 : ¬ ((0 : Int32) < 0 ∨ cl2.slots.size ≤ ((0 : Int32)).toNatClampNeg) := inb_of S2 ⟨by decide, by decide⟩
  have hat2 : cl2.slots[((0 : Int32)).toNatClampNeg]? = some (.int c0) := Ha2.at hin2 rfl
  have K3 : ∀ t, Steps p.tables e below (s₁.setTop (mkF m 21 #[.val (.ref a1), .val (.int (1 : Int32)), .val (.ref d), .val (.int (1 : Int32)), .val (.int (4 : Int32)), .val (.int (0 : Int32))] [(.int c0), (.int (0 : Int32)), (.ref d)])) t → Steps p.tables e below G t := fun t k => K1 t (X0.baloadBytes hx (j := (0 : Int32)) (v := (.int c0)) (by rw [e0]; exact Ar2.1) (State.isArrayOf_alike hZ.alike Ar2.2.1) Ar2.2.2 hin2 hat2 (g := (mkF m 20 #[.val (.ref a1), .val (.int (1 : Int32)), .val (.ref d), .val (.int (1 : Int32)), .val (.int (4 : Int32)), .val (.int (0 : Int32))] [(.int (0 : Int32)), (.ref a1), (.int (0 : Int32)), (.ref d)])) rfl rfl (hb hby d41_20) _ k)
  have K4 : ∀ t, Steps p.tables e below (s₁.setTop (mkF m 26 #[.val (.ref a1), .val (.int (1 : Int32)), .val (.ref d), .val (.int (1 : Int32)), .val (.int (4 : Int32)), .val (.int (0 : Int32))] [(.int ((c0 &&& (255 : Int32)).toUInt32.toUInt16.toUInt32.toInt32)), (.int (0 : Int32)), (.ref d)])) t → Steps p.tables e below G t := by
    intro t k
    refine K3 t ?_
    refine XS.sipush X0.here hx rfl (hb hby d41_21) ?_
    refine XS.iand X0.here hx rfl (hb hby d41_24) rfl ?_
    refine XS.i2c X0.here hx rfl (hb hby d41_25) rfl ?_
    exact k
  have l16 : 16 ≤ (vs ++ List.replicate 16 (Value.int (0 : Int32))).length := own_padl _ _
  obtain ⟨cl5, Ar5, q5, S5, M5, Ha5, Ga5⟩ := id (VD.pad (pad_rep vs (Value.int (0 : Int32)) 16))
  have hin5 : ¬ ((0 : Int32) < 0 ∨ cl5.slots.size ≤ ((0 : Int32)).toNatClampNeg) := inb_of S5 (own_lt4 hq4 _ ⟨by decide, by decide⟩)
  obtain ⟨T5, h5, X5, e5, W5, st5⟩ := stC X0 hx hZ e0 Ar5 (j := (0 : Int32)) hin5 (g := (mkF m 26 #[.val (.ref a1), .val (.int (1 : Int32)), .val (.ref d), .val (.int (1 : Int32)), .val (.int (4 : Int32)), .val (.int (0 : Int32))] [(.int ((c0 &&& (255 : Int32)).toUInt32.toUInt16.toUInt32.toInt32)), (.int (0 : Int32)), (.ref d)])) rfl rfl (hb hby d41_26)
  have V5 : Arv Z h5 d kd .char z ((vs ++ List.replicate 16 (Value.int (0 : Int32))).set 0 (.int (nar .char ((c0 &&& (255 : Int32)).toUInt32.toUInt16.toUInt32.toInt32)))) (Value.int (0 : Int32)) := Arv.set Ar5 q5 S5 M5 Ha5 Ga5 (fits_nar_char _) W5 _ rfl (Nat.lt_of_lt_of_le (by decide) l16)
  have lq5 : 16 ≤ ((vs ++ List.replicate 16 (Value.int (0 : Int32))).set 0 (.int (nar .char ((c0 &&& (255 : Int32)).toUInt32.toUInt16.toUInt32.toInt32)))).length := own_l16 l16
  have K6 : ∀ t, Steps p.tables e below (T5.setTop (mkF m 27 #[.val (.ref a1), .val (.int (1 : Int32)), .val (.ref d), .val (.int (1 : Int32)), .val (.int (4 : Int32)), .val (.int (0 : Int32))] [])) t → Steps p.tables e below G t := fun t k => K4 t (st5 t k)
  have f7 := V1.other W5 ned
  have Z8 : n0 ≤ h5.size := Nat.le_trans Z0 (Keep.of_wr W5).1
  have KP9 : Keep h0 h5 [d] := KP0.wr W5 (Or.inl (List.mem_of_getElem? (i := 0) rfl))
  have N10 := Fr.snoc X5 N0 gd
  have K11 : ∀ t, Steps p.tables e below (T5.setTop (mkF m 20 #[.val (.ref a1), .val (.int (2 : Int32)), .val (.ref d), .val (.int (2 : Int32)), .val (.int (4 : Int32)), .val (.int (1 : Int32))] [(.int (1 : Int32)), (.ref a1), (.int (1 : Int32)), (.ref d)])) t → Steps p.tables e below G t := by
    intro t k
    refine K6 t ?_
    refine XS.iinc X5.here hx rfl (hb hby d41_27) rfl (l' := #[.val (.ref a1), .val (.int (1 : Int32)), .val (.ref d), .val (.int (1 : Int32)), .val (.int (4 : Int32)), .val (.int (1 : Int32))]) rfl ?_
    refine XS.goto X5.here hx rfl (pc0 := 30) (pc' := 3) rfl (hb hby d41_30) (by decide) (by decide) ?_
    refine XS.iload X5.here hx rfl (hb hby d41_3) rfl ?_
    refine XS.iload X5.here hx rfl (hb hby d41_5) rfl ?_
    refine XS.icmpNo X5.here hx rfl (hb hby d41_7) rfl (tlt (by decide)).2.1 ?_
    refine XS.aloadN X5.here hx rfl (hb hby d41_10) rfl rfl ?_
    refine XS.iloadN X5.here hx rfl (hb hby d41_11) rfl ?_
    refine XS.iinc X5.here hx rfl (hb hby d41_12) rfl (l' := #[.val (.ref a1), .val (.int (1 : Int32)), .val (.ref d), .val (.int (2 : Int32)), .val (.int (4 : Int32)), .val (.int (1 : Int32))]) rfl ?_
    refine XS.aloadN X5.here hx rfl (hb hby d41_15) rfl rfl ?_
    refine XS.iloadN X5.here hx rfl (hb hby d41_16) rfl ?_
    refine XS.iinc X5.here hx rfl (hb hby d41_17) rfl (l' := #[.val (.ref a1), .val (.int (2 : Int32)), .val (.ref d), .val (.int (2 : Int32)), .val (.int (4 : Int32)), .val (.int (1 : Int32))]) rfl ?_
    exact k
  obtain ⟨cl12, Ar12, qc12, S12, M12, Ha12, Ga12⟩ := id f7
  have hin12 : ¬ ((1 : Int32) < 0 ∨ cl12.slots.size ≤ ((1 : Int32)).toNatClampNeg) := inb_of S12 ⟨by decide, by decide⟩
  have hat12 : cl12.slots[((1 : Int32)).toNatClampNeg]? = some (.int c1) := Ha12.at hin12 rfl
  have K13 : ∀ t, Steps p.tables e below (T5.setTop (mkF m 21 #[.val (.ref a1), .val (.int (2 : Int32)), .val (.ref d), .val (.int (2 : Int32)), .val (.int (4 : Int32)), .val (.int (1 : Int32))] [(.int c1), (.int (1 : Int32)), (.ref d)])) t → Steps p.tables e below G t := fun t k => K11 t (X5.baloadBytes hx (j := (1 : Int32)) (v := (.int c1)) (by rw [e5]; exact Ar12.1) (State.isArrayOf_alike hZ.alike Ar12.2.1) Ar12.2.2 hin12 hat12 (g := (mkF m 20 #[.val (.ref a1), .val (.int (2 : Int32)), .val (.ref d), .val (.int (2 : Int32)), .val (.int (4 : Int32)), .val (.int (1 : Int32))] [(.int (1 : Int32)), (.ref a1), (.int (1 : Int32)), (.ref d)])) rfl rfl (hb hby d41_20) _ k)
  have K14 : ∀ t, Steps p.tables e below (T5.setTop (mkF m 26 #[.val (.ref a1), .val (.int (2 : Int32)), .val (.ref d), .val (.int (2 : Int32)), .val (.int (4 : Int32)), .val (.int (1 : Int32))] [(.int ((c1 &&& (255 : Int32)).toUInt32.toUInt16.toUInt32.toInt32)), (.int (1 : Int32)), (.ref d)])) t → Steps p.tables e below G t := by
    intro t k
    refine K13 t ?_
    refine XS.sipush X5.here hx rfl (hb hby d41_21) ?_
    refine XS.iand X5.here hx rfl (hb hby d41_24) rfl ?_
    refine XS.i2c X5.here hx rfl (hb hby d41_25) rfl ?_
    exact k
  obtain ⟨cl15, Ar15, q15, S15, M15, Ha15, Ga15⟩ := id (V5)
  have hin15 : ¬ ((1 : Int32) < 0 ∨ cl15.slots.size ≤ ((1 : Int32)).toNatClampNeg) := inb_of S15 (own_lt4 hq4 _ ⟨by decide, by decide⟩)
  obtain ⟨T15, h15, X15, e15, W15, st15⟩ := stC X5 hx hZ e5 Ar15 (j := (1 : Int32)) hin15 (g := (mkF m 26 #[.val (.ref a1), .val (.int (2 : Int32)), .val (.ref d), .val (.int (2 : Int32)), .val (.int (4 : Int32)), .val (.int (1 : Int32))] [(.int ((c1 &&& (255 : Int32)).toUInt32.toUInt16.toUInt32.toInt32)), (.int (1 : Int32)), (.ref d)])) rfl rfl (hb hby d41_26)
  have V15 : Arv Z h15 d kd .char z (((vs ++ List.replicate 16 (Value.int (0 : Int32))).set 0 (.int (nar .char ((c0 &&& (255 : Int32)).toUInt32.toUInt16.toUInt32.toInt32)))).set 1 (.int (nar .char ((c1 &&& (255 : Int32)).toUInt32.toUInt16.toUInt32.toInt32)))) (Value.int (0 : Int32)) := Arv.set Ar15 q15 S15 M15 Ha15 Ga15 (fits_nar_char _) W15 _ rfl (Nat.lt_of_lt_of_le (by decide) lq5)
  have lq15 : 16 ≤ (((vs ++ List.replicate 16 (Value.int (0 : Int32))).set 0 (.int (nar .char ((c0 &&& (255 : Int32)).toUInt32.toUInt16.toUInt32.toInt32)))).set 1 (.int (nar .char ((c1 &&& (255 : Int32)).toUInt32.toUInt16.toUInt32.toInt32)))).length := own_l16 lq5
  have K16 : ∀ t, Steps p.tables e below (T15.setTop (mkF m 27 #[.val (.ref a1), .val (.int (2 : Int32)), .val (.ref d), .val (.int (2 : Int32)), .val (.int (4 : Int32)), .val (.int (1 : Int32))] [])) t → Steps p.tables e below G t := fun t k => K14 t (st15 t k)
  have f17 := f7.other W15 ned
  have Z18 : n0 ≤ h15.size := Nat.le_trans Z8 (Keep.of_wr W15).1
  have KP19 : Keep h0 h15 [d] := KP9.wr W15 (Or.inl (List.mem_of_getElem? (i := 0) rfl))
  have N20 := Fr.snoc X15 N10 gd
  have K21 : ∀ t, Steps p.tables e below (T15.setTop (mkF m 20 #[.val (.ref a1), .val (.int (3 : Int32)), .val (.ref d), .val (.int (3 : Int32)), .val (.int (4 : Int32)), .val (.int (2 : Int32))] [(.int (2 : Int32)), (.ref a1), (.int (2 : Int32)), (.ref d)])) t → Steps p.tables e below G t := by
    intro t k
    refine K16 t ?_
    refine XS.iinc X15.here hx rfl (hb hby d41_27) rfl (l' := #[.val (.ref a1), .val (.int (2 : Int32)), .val (.ref d), .val (.int (2 : Int32)), .val (.int (4 : Int32)), .val (.int (2 : Int32))]) rfl ?_
    refine XS.goto X15.here hx rfl (pc0 := 30) (pc' := 3) rfl (hb hby d41_30) (by decide) (by decide) ?_
    refine XS.iload X15.here hx rfl (hb hby d41_3) rfl ?_
    refine XS.iload X15.here hx rfl (hb hby d41_5) rfl ?_
    refine XS.icmpNo X15.here hx rfl (hb hby d41_7) rfl (tlt (by decide)).2.1 ?_
    refine XS.aloadN X15.here hx rfl (hb hby d41_10) rfl rfl ?_
    refine XS.iloadN X15.here hx rfl (hb hby d41_11) rfl ?_
    refine XS.iinc X15.here hx rfl (hb hby d41_12) rfl (l' := #[.val (.ref a1), .val (.int (2 : Int32)), .val (.ref d), .val (.int (3 : Int32)), .val (.int (4 : Int32)), .val (.int (2 : Int32))]) rfl ?_
    refine XS.aloadN X15.here hx rfl (hb hby d41_15) rfl rfl ?_
    refine XS.iloadN X15.here hx rfl (hb hby d41_16) rfl ?_
    refine XS.iinc X15.here hx rfl (hb hby d41_17) rfl (l' := #[.val (.ref a1), .val (.int (3 : Int32)), .val (.ref d), .val (.int (3 : Int32)), .val (.int (4 : Int32)), .val (.int (2 : Int32))]) rfl ?_
    exact k
  obtain ⟨cl22, Ar22, qc22, S22, M22, Ha22, Ga22⟩ := id f17
  have hin22 : ¬ ((2 : Int32) < 0 ∨ cl22.slots.size ≤ ((2 : Int32)).toNatClampNeg) := inb_of S22 ⟨by decide, by decide⟩
  have hat22 : cl22.slots[((2 : Int32)).toNatClampNeg]? = some (.int c2) := Ha22.at hin22 rfl
  have K23 : ∀ t, Steps p.tables e below (T15.setTop (mkF m 21 #[.val (.ref a1), .val (.int (3 : Int32)), .val (.ref d), .val (.int (3 : Int32)), .val (.int (4 : Int32)), .val (.int (2 : Int32))] [(.int c2), (.int (2 : Int32)), (.ref d)])) t → Steps p.tables e below G t := fun t k => K21 t (X15.baloadBytes hx (j := (2 : Int32)) (v := (.int c2)) (by rw [e15]; exact Ar22.1) (State.isArrayOf_alike hZ.alike Ar22.2.1) Ar22.2.2 hin22 hat22 (g := (mkF m 20 #[.val (.ref a1), .val (.int (3 : Int32)), .val (.ref d), .val (.int (3 : Int32)), .val (.int (4 : Int32)), .val (.int (2 : Int32))] [(.int (2 : Int32)), (.ref a1), (.int (2 : Int32)), (.ref d)])) rfl rfl (hb hby d41_20) _ k)
  have K24 : ∀ t, Steps p.tables e below (T15.setTop (mkF m 26 #[.val (.ref a1), .val (.int (3 : Int32)), .val (.ref d), .val (.int (3 : Int32)), .val (.int (4 : Int32)), .val (.int (2 : Int32))] [(.int ((c2 &&& (255 : Int32)).toUInt32.toUInt16.toUInt32.toInt32)), (.int (2 : Int32)), (.ref d)])) t → Steps p.tables e below G t := by
    intro t k
    refine K23 t ?_
    refine XS.sipush X15.here hx rfl (hb hby d41_21) ?_
    refine XS.iand X15.here hx rfl (hb hby d41_24) rfl ?_
    refine XS.i2c X15.here hx rfl (hb hby d41_25) rfl ?_
    exact k
  obtain ⟨cl25, Ar25, q25, S25, M25, Ha25, Ga25⟩ := id (V15)
  have hin25 : ¬ ((2 : Int32) < 0 ∨ cl25.slots.size ≤ ((2 : Int32)).toNatClampNeg) := inb_of S25 (own_lt4 hq4 _ ⟨by decide, by decide⟩)
  obtain ⟨T25, h25, X25, e25, W25, st25⟩ := stC X15 hx hZ e15 Ar25 (j := (2 : Int32)) hin25 (g := (mkF m 26 #[.val (.ref a1), .val (.int (3 : Int32)), .val (.ref d), .val (.int (3 : Int32)), .val (.int (4 : Int32)), .val (.int (2 : Int32))] [(.int ((c2 &&& (255 : Int32)).toUInt32.toUInt16.toUInt32.toInt32)), (.int (2 : Int32)), (.ref d)])) rfl rfl (hb hby d41_26)
  have V25 : Arv Z h25 d kd .char z ((((vs ++ List.replicate 16 (Value.int (0 : Int32))).set 0 (.int (nar .char ((c0 &&& (255 : Int32)).toUInt32.toUInt16.toUInt32.toInt32)))).set 1 (.int (nar .char ((c1 &&& (255 : Int32)).toUInt32.toUInt16.toUInt32.toInt32)))).set 2 (.int (nar .char ((c2 &&& (255 : Int32)).toUInt32.toUInt16.toUInt32.toInt32)))) (Value.int (0 : Int32)) := Arv.set Ar25 q25 S25 M25 Ha25 Ga25 (fits_nar_char _) W25 _ rfl (Nat.lt_of_lt_of_le (by decide) lq15)
  have lq25 : 16 ≤ ((((vs ++ List.replicate 16 (Value.int (0 : Int32))).set 0 (.int (nar .char ((c0 &&& (255 : Int32)).toUInt32.toUInt16.toUInt32.toInt32)))).set 1 (.int (nar .char ((c1 &&& (255 : Int32)).toUInt32.toUInt16.toUInt32.toInt32)))).set 2 (.int (nar .char ((c2 &&& (255 : Int32)).toUInt32.toUInt16.toUInt32.toInt32)))).length := own_l16 lq15
  have K26 : ∀ t, Steps p.tables e below (T25.setTop (mkF m 27 #[.val (.ref a1), .val (.int (3 : Int32)), .val (.ref d), .val (.int (3 : Int32)), .val (.int (4 : Int32)), .val (.int (2 : Int32))] [])) t → Steps p.tables e below G t := fun t k => K24 t (st25 t k)
  have f27 := f17.other W25 ned
  have Z28 : n0 ≤ h25.size := Nat.le_trans Z18 (Keep.of_wr W25).1
  have KP29 : Keep h0 h25 [d] := KP19.wr W25 (Or.inl (List.mem_of_getElem? (i := 0) rfl))
  have N30 := Fr.snoc X25 N20 gd
  have K31 : ∀ t, Steps p.tables e below (T25.setTop (mkF m 20 #[.val (.ref a1), .val (.int (4 : Int32)), .val (.ref d), .val (.int (4 : Int32)), .val (.int (4 : Int32)), .val (.int (3 : Int32))] [(.int (3 : Int32)), (.ref a1), (.int (3 : Int32)), (.ref d)])) t → Steps p.tables e below G t := by
    intro t k
    refine K26 t ?_
    refine XS.iinc X25.here hx rfl (hb hby d41_27) rfl (l' := #[.val (.ref a1), .val (.int (3 : Int32)), .val (.ref d), .val (.int (3 : Int32)), .val (.int (4 : Int32)), .val (.int (3 : Int32))]) rfl ?_
    refine XS.goto X25.here hx rfl (pc0 := 30) (pc' := 3) rfl (hb hby d41_30) (by decide) (by decide) ?_
    refine XS.iload X25.here hx rfl (hb hby d41_3) rfl ?_
    refine XS.iload X25.here hx rfl (hb hby d41_5) rfl ?_
    refine XS.icmpNo X25.here hx rfl (hb hby d41_7) rfl (tlt (by decide)).2.1 ?_
    refine XS.aloadN X25.here hx rfl (hb hby d41_10) rfl rfl ?_
    refine XS.iloadN X25.here hx rfl (hb hby d41_11) rfl ?_
    refine XS.iinc X25.here hx rfl (hb hby d41_12) rfl (l' := #[.val (.ref a1), .val (.int (3 : Int32)), .val (.ref d), .val (.int (4 : Int32)), .val (.int (4 : Int32)), .val (.int (3 : Int32))]) rfl ?_
    refine XS.aloadN X25.here hx rfl (hb hby d41_15) rfl rfl ?_
    refine XS.iloadN X25.here hx rfl (hb hby d41_16) rfl ?_
    refine XS.iinc X25.here hx rfl (hb hby d41_17) rfl (l' := #[.val (.ref a1), .val (.int (4 : Int32)), .val (.ref d), .val (.int (4 : Int32)), .val (.int (4 : Int32)), .val (.int (3 : Int32))]) rfl ?_
    exact k
  obtain ⟨cl32, Ar32, qc32, S32, M32, Ha32, Ga32⟩ := id f27
  have hin32 : ¬ ((3 : Int32) < 0 ∨ cl32.slots.size ≤ ((3 : Int32)).toNatClampNeg) := inb_of S32 ⟨by decide, by decide⟩
  have hat32 : cl32.slots[((3 : Int32)).toNatClampNeg]? = some (.int c3) := Ha32.at hin32 rfl
  have K33 : ∀ t, Steps p.tables e below (T25.setTop (mkF m 21 #[.val (.ref a1), .val (.int (4 : Int32)), .val (.ref d), .val (.int (4 : Int32)), .val (.int (4 : Int32)), .val (.int (3 : Int32))] [(.int c3), (.int (3 : Int32)), (.ref d)])) t → Steps p.tables e below G t := fun t k => K31 t (X25.baloadBytes hx (j := (3 : Int32)) (v := (.int c3)) (by rw [e25]; exact Ar32.1) (State.isArrayOf_alike hZ.alike Ar32.2.1) Ar32.2.2 hin32 hat32 (g := (mkF m 20 #[.val (.ref a1), .val (.int (4 : Int32)), .val (.ref d), .val (.int (4 : Int32)), .val (.int (4 : Int32)), .val (.int (3 : Int32))] [(.int (3 : Int32)), (.ref a1), (.int (3 : Int32)), (.ref d)])) rfl rfl (hb hby d41_20) _ k)
  have K34 : ∀ t, Steps p.tables e below (T25.setTop (mkF m 26 #[.val (.ref a1), .val (.int (4 : Int32)), .val (.ref d), .val (.int (4 : Int32)), .val (.int (4 : Int32)), .val (.int (3 : Int32))] [(.int ((c3 &&& (255 : Int32)).toUInt32.toUInt16.toUInt32.toInt32)), (.int (3 : Int32)), (.ref d)])) t → Steps p.tables e below G t := by
    intro t k
    refine K33 t ?_
    refine XS.sipush X25.here hx rfl (hb hby d41_21) ?_
    refine XS.iand X25.here hx rfl (hb hby d41_24) rfl ?_
    refine XS.i2c X25.here hx rfl (hb hby d41_25) rfl ?_
    exact k
  obtain ⟨cl35, Ar35, q35, S35, M35, Ha35, Ga35⟩ := id (V25)
  have hin35 : ¬ ((3 : Int32) < 0 ∨ cl35.slots.size ≤ ((3 : Int32)).toNatClampNeg) := inb_of S35 (own_lt4 hq4 _ ⟨by decide, by decide⟩)
  obtain ⟨T35, h35, X35, e35, W35, st35⟩ := stC X25 hx hZ e25 Ar35 (j := (3 : Int32)) hin35 (g := (mkF m 26 #[.val (.ref a1), .val (.int (4 : Int32)), .val (.ref d), .val (.int (4 : Int32)), .val (.int (4 : Int32)), .val (.int (3 : Int32))] [(.int ((c3 &&& (255 : Int32)).toUInt32.toUInt16.toUInt32.toInt32)), (.int (3 : Int32)), (.ref d)])) rfl rfl (hb hby d41_26)
  have V35 : Arv Z h35 d kd .char z (((((vs ++ List.replicate 16 (Value.int (0 : Int32))).set 0 (.int (nar .char ((c0 &&& (255 : Int32)).toUInt32.toUInt16.toUInt32.toInt32)))).set 1 (.int (nar .char ((c1 &&& (255 : Int32)).toUInt32.toUInt16.toUInt32.toInt32)))).set 2 (.int (nar .char ((c2 &&& (255 : Int32)).toUInt32.toUInt16.toUInt32.toInt32)))).set 3 (.int (nar .char ((c3 &&& (255 : Int32)).toUInt32.toUInt16.toUInt32.toInt32)))) (Value.int (0 : Int32)) := Arv.set Ar35 q35 S35 M35 Ha35 Ga35 (fits_nar_char _) W35 _ rfl (Nat.lt_of_lt_of_le (by decide) lq25)
  have lq35 : 16 ≤ (((((vs ++ List.replicate 16 (Value.int (0 : Int32))).set 0 (.int (nar .char ((c0 &&& (255 : Int32)).toUInt32.toUInt16.toUInt32.toInt32)))).set 1 (.int (nar .char ((c1 &&& (255 : Int32)).toUInt32.toUInt16.toUInt32.toInt32)))).set 2 (.int (nar .char ((c2 &&& (255 : Int32)).toUInt32.toUInt16.toUInt32.toInt32)))).set 3 (.int (nar .char ((c3 &&& (255 : Int32)).toUInt32.toUInt16.toUInt32.toInt32)))).length := own_l16 lq25
  have K36 : ∀ t, Steps p.tables e below (T35.setTop (mkF m 27 #[.val (.ref a1), .val (.int (4 : Int32)), .val (.ref d), .val (.int (4 : Int32)), .val (.int (4 : Int32)), .val (.int (3 : Int32))] [])) t → Steps p.tables e below G t := fun t k => K34 t (st35 t k)
  have f37 := f27.other W35 ned
  have Z38 : n0 ≤ h35.size := Nat.le_trans Z28 (Keep.of_wr W35).1
  have KP39 : Keep h0 h35 [d] := KP29.wr W35 (Or.inl (List.mem_of_getElem? (i := 0) rfl))
  have N40 := Fr.snoc X35 N30 gd
  obtain ⟨fs, hr, hrun, hended, hW, hsame⟩ := X35.leave (v := none) (fun _ => rfl)
  have KF := K36
  rw [hG] at KF
  refine ⟨_, _, KF _ ?_, hrun, hended, _, _, rfl, ?_, ⟨_, rfl⟩, hW, hsame.mono (by decide) (by decide)⟩
  · refine XS.iinc X35.here hx rfl (hb hby d41_27) rfl (l' := #[.val (.ref a1), .val (.int (4 : Int32)), .val (.ref d), .val (.int (4 : Int32)), .val (.int (4 : Int32)), .val (.int (4 : Int32))]) rfl ?_
    refine XS.goto X35.here hx rfl (pc0 := 30) (pc' := 3) rfl (hb hby d41_30) (by decide) (by decide) ?_
    refine XS.iload X35.here hx rfl (hb hby d41_3) rfl ?_
    refine XS.iload X35.here hx rfl (hb hby d41_5) rfl ?_
    refine XS.icmpYes X35.here hx rfl (pc0 := 7) (pc' := 33) rfl (hb hby d41_7) rfl (flt (by decide)).2.1 (by decide) (by decide) ?_
    show Steps p.tables e below (T35.setTop (mkF m 33 #[.val (.ref a1), .val (.int (4 : Int32)), .val (.ref d), .val (.int (4 : Int32)), .val (.int (4 : Int32)), .val (.int (4 : Int32))] [])) _
    exact X35.returnOut hx Bd.returns (hb hby d41_33) hr
  · show Q41 Z d kd z c0 c1 c2 c3 h0 n0 _ T35.heap _
    rw [e35]
    exact ⟨_, rfl, N40, KP39, V35, own_set4 _ l16 _ _ _ _ _⟩
def Q40 (Z : State) (d : Addr) (kd : ClassId) (z : Int32) (c0 c1 c2 c3 : Int32) (h0 : Heap) (n0 : Nat) (v : Option Value) (h : Heap) (L : List Loc) : Prop := ∃ vs' : List Value, v = none ∧ Fr n0 L ∧ Keep h0 h [d] ∧ Arv Z h d kd .char z vs' (Value.int (0 : Int32)) ∧ vs'.getD 0 (Value.int (0 : Int32)) = .int (own_gl c0) ∧ vs'.getD 1 (Value.int (0 : Int32)) = .int (own_gl c1) ∧ vs'.getD 2 (Value.int (0 : Int32)) = .int (own_gl c2) ∧ vs'.getD 3 (Value.int (0 : Int32)) = .int (own_gl c3)
theorem d40_0 : decode jdk_43_method_11_code 0 = .ok (.aload_n 0, 1) := by decide +kernel
theorem d40_1 : decode jdk_43_method_11_code 1 = .ok (.iload_n 1, 1) := by decide +kernel
theorem d40_2 : decode jdk_43_method_11_code 2 = .ok (.aload_n 3, 1) := by decide +kernel
theorem d40_3 : decode jdk_43_method_11_code 3 = .ok (.iload 4, 2) := by decide +kernel
theorem d40_5 : decode jdk_43_method_11_code 5 = .ok (.iload_n 2, 1) := by decide +kernel
theorem d40_6 : decode jdk_43_method_11_code 6 = .ok (.iload_n 1, 1) := by decide +kernel
theorem d40_7 : decode jdk_43_method_11_code 7 = .ok (.isub, 1) := by decide +kernel
theorem d40_8 : decode jdk_43_method_11_code 8 = .ok (.invokestatic 13, 3) := by decide +kernel
theorem d40_11 : decode jdk_43_method_11_code 11 = .ok (.return_, 1) := by decide +kernel
theorem pd_14 : parseMethodDescriptor "([BI[CII)V" = some ⟨[(.array .byte), .int, (.array .char), .int, .int], none⟩ := by decide +kernel
theorem ef_rm40 (m : MethodId) (x0 : Addr) (x3 : Addr) : entryFrame m #[(.ref x0), (.int (0 : Int32)), (.int (4 : Int32)), (.ref x3), (.int (0 : Int32))] 5 = mkF m 0 #[.val (.ref x0), .val (.int (0 : Int32)), .val (.int (4 : Int32)), .val (.ref x3), .val (.int (0 : Int32))] [] := by first | (simp [entryFrame, mkF, argsToLocals, Value.category]; done) | rfl
set_option maxRecDepth 65536 in
set_option maxHeartbeats 40000000 in
theorem rm40 (l : Launch) (Z : State) (a0 : Array Value) (hw : ∀ d ∈ tables_1, d.before a0 Z = true) (ws : List Jvm.Cond) (a1 : Addr) (k1 : ClassId) (c0 c1 c2 c3 : Int32) (d : Addr) (kd : ClassId) (z : Int32) (vs : List Value) (h0 : Heap) (n0 : Nat) (Z0 : n0 ≤ h0.size) (V1 : Arv Z h0 a1 k1 .byte (4 : Int32) [(.int c0), (.int c1), (.int c2), (.int c3)] (Value.int (0 : Int32))) (VD : Arv Z h0 d kd .char z vs (Value.int (0 : Int32))) (ned : a1 ≠ d) (gd : n0 ≤ d) (hq4 : ¬ z < 4) :
    MetFree l (⟨"java/lang/StringLatin1", "getChars", "([BII[CI)V"⟩ : MethodName) (head1 (Jvm.Cond.code (⟨"java/lang/StringLatin1", "getChars", "([BII[CI)V"⟩ : MethodName) jdk_43_method_11_code 5 none :: ws) ({ frames := 1, cells := 0, slots := 0, locals := 17 } : Room)) (fun a U => a = #[(.ref a1), (.int (0 : Int32)), (.int (4 : Int32)), (.ref d), (.int (0 : Int32))] ∧ Z.Warmed39 U.vm ∧ U.heap = h0) (fun _ _ _ _ _ => True) (fun _ U o U' => ∃ v L, o = .returned v ∧ Q40 Z d kd z c0 c1 c2 c3 h0 n0 v U'.heap L ∧ FrameEnd U o U' L ({ frames := 1, cells := 0, slots := 0, locals := 17 } : Room).cells ({ frames := 1, cells := 0, slots := 0, locals := 17 } : Room).slots) := by
  refine MetFree.of_bodySF (plainFor_of_name pn_java_lang_StringLatin1) hisR ?_
  intro p e s m args below meth c s₁ Bd hml0 hP hK
  obtain ⟨rfl, hZ, hh⟩ := hP
  have hx := Bd.exec
  have hby := Bd.bytes
  have hml : c.maxLocals = 5 := hml0
  have hown : s.vm.findClass "java/lang/StringLatin1" = some m.cls := findClass_of_methodNamed Bd.named
  have hnm := (name_of_methodNamed Bd.named Bd.method).1
  have X0 : Stand p l e ({ frames := 1, cells := 0, slots := 0, locals := 17 } : Room) s m #[(.ref a1), (.int (0 : Int32)), (.int (4 : Int32)), (.ref d), (.int (0 : Int32))] below meth c s₁ [] 0 0 := Stand.of_body Bd
  have e0 : s₁.heap = h0 := by rw [← hh, Bd.state]; rfl
  have N0 := Fr.nil n0
  have KP0 : Keep h0 h0 [d] := Keep.refl h0 _
  obtain ⟨G, hG⟩ : ∃ G : State, G = s₁.setTop (entryFrame m #[(.ref a1), (.int (0 : Int32)), (.int (4 : Int32)), (.ref d), (.int (0 : Int32))] 5) := ⟨_, rfl⟩
  have pre0 : ∀ t, Steps p.tables e below (s₁.setTop (mkF m 0 #[.val (.ref a1), .val (.int (0 : Int32)), .val (.int (4 : Int32)), .val (.ref d), .val (.int (0 : Int32))] [])) t → Steps p.tables e below G t := fun t k => hG ▸ castTop (ef_rm40 m a1 d) k
  have K1 : ∀ t, Steps p.tables e below (s₁.setTop (mkF m 8 #[.val (.ref a1), .val (.int (0 : Int32)), .val (.int (4 : Int32)), .val (.ref d), .val (.int (0 : Int32))] [(.int (4 : Int32)), (.int (0 : Int32)), (.ref d), (.int (0 : Int32)), (.ref a1)])) t → Steps p.tables e below G t := by
    intro t k
    refine pre0 t ?_
    refine XS.aloadN X0.here hx rfl (hb hby d40_0) rfl rfl ?_
    refine XS.iloadN X0.here hx rfl (hb hby d40_1) rfl ?_
    refine XS.aloadN X0.here hx rfl (hb hby d40_2) rfl rfl ?_
    refine XS.iload X0.here hx rfl (hb hby d40_3) rfl ?_
    refine XS.iloadN X0.here hx rfl (hb hby d40_5) rfl ?_
    refine XS.iloadN X0.here hx rfl (hb hby d40_6) rfl ?_
    refine XS.isub X0.here hx rfl (hb hby d40_7) rfl ?_
    exact k
  obtain ⟨_, _, ⟨T2, L2, kk2, nn2⟩, -, X2, ⟨Lc2, hQ2, lq2, yq2, zq2⟩, st2⟩ := Jvm.LawKit.callS X0 hx (y := (⟨"java/lang/StringLatin1", "inflate", "([BI[CII)V"⟩ : MethodName)) hown (mvT hZ (hw _ (List.mem_of_getElem? (i := 180) rfl))) (mvT hZ (hw _ (List.mem_of_getElem? (i := 181) rfl))) (mvT hZ (hw _ (List.mem_of_getElem? (i := 178) rfl))) (mvT hZ (hw _ (List.mem_of_getElem? (i := 182) rfl))) (by decide) (backOf (W := 0) (rm41 l Z a0 hw [] a1 k1 c0 c1 c2 c3 d kd z vs h0 n0 Z0 V1 VD ned gd hq4) hZ (hw _ (List.mem_of_getElem? (i := 182) rfl)) (hw _ (List.mem_of_getElem? (i := 178) rfl)) (by decide) (by decide)) (g := (mkF m 8 #[.val (.ref a1), .val (.int (0 : Int32)), .val (.int (4 : Int32)), .val (.ref d), .val (.int (0 : Int32))] [(.int (4 : Int32)), (.int (0 : Int32)), (.ref d), (.int (0 : Int32)), (.ref a1)])) rfl (by rw [hml]; rfl) (argsL := [(.ref a1), (.int (0 : Int32)), (.ref d), (.int (0 : Int32)), (.int (4 : Int32))]) (rest := []) (lenOf pd_14 rfl) rfl (by show 2 * 0 + _ ≤ _; exact Nat.le_of_eq rfl) (hb hby d40_8) (fun _ _ => ⟨rfl, e0, (by decide : 0 + 0 ≤ _), (by decide : 0 + 0 ≤ _)⟩)
  dsimp only [Pt.U, Pt.locs, Pt.cells, Pt.slots] at X2 lq2 yq2 zq2 st2 hQ2
  subst lq2 yq2 zq2
  obtain ⟨vs2, rfl, Nq2, K2, V2, ct2⟩ := hQ2
  have N3 := Fr.app N0 Nq2
  have f4 := V1.keep K2 (ninS ned nin0)
  have Z5 : n0 ≤ T2.heap.size := Nat.le_trans Z0 K2.1
  have KP6 : Keep h0 T2.heap [d] := KP0.trans K2 (allS (Or.inl (List.mem_of_getElem? (i := 0) rfl)) all0)
  have K7 : ∀ t, Steps p.tables e below (T2.setTop (mkF m 11 #[.val (.ref a1), .val (.int (0 : Int32)), .val (.int (4 : Int32)), .val (.ref d), .val (.int (0 : Int32))] [])) t → Steps p.tables e below G t := fun t k => K1 t (st2 _ k)
  obtain ⟨fs, hr, hrun, hended, hW, hsame⟩ := X2.leave (v := none) (fun _ => rfl)
  have KF := K7
  rw [hG] at KF
  refine ⟨_, _, KF _ ?_, hrun, hended, _, _, rfl, ?_, ⟨_, rfl⟩, hW, hsame.mono (by decide) (by decide)⟩
  · show Steps p.tables e below (T2.setTop (mkF m 11 #[.val (.ref a1), .val (.int (0 : Int32)), .val (.int (4 : Int32)), .val (.ref d), .val (.int (0 : Int32))] [])) _
    exact X2.returnOut hx Bd.returns (hb hby d40_11) hr
  · show Q40 Z d kd z c0 c1 c2 c3 h0 n0 _ T2.heap _
    exact ⟨_, rfl, N3, KP6, V2, ct2⟩
def Q28 (Z : State) (d : Addr) (kd : ClassId) (z : Int32) (c0 c1 c2 c3 c4 c5 c6 c7 : Int32) (h0 : Heap) (n0 : Nat) (v : Option Value) (h : Heap) (L : List Loc) : Prop := ∃ vs' : List Value, v = none ∧ Fr n0 L ∧ Keep h0 h [d] ∧ Arv Z h d kd .char z vs' (Value.int (0 : Int32)) ∧ vs'.getD 0 (Value.int (0 : Int32)) = .int (own_g c0 c1) ∧ vs'.getD 1 (Value.int (0 : Int32)) = .int (own_g c2 c3) ∧ vs'.getD 2 (Value.int (0 : Int32)) = .int (own_g c4 c5) ∧ vs'.getD 3 (Value.int (0 : Int32)) = .int (own_g c6 c7)
theorem d28_0 : decode jdk_52_method_26_code 0 = .ok (.iload_n 1, 1) := by decide +kernel
theorem d28_1 : decode jdk_52_method_26_code 1 = .ok (.iload_n 2, 1) := by decide +kernel
theorem d28_2 : decode jdk_52_method_26_code 2 = .ok (.if_icmp .ge 11, 3) := by decide +kernel
theorem d28_5 : decode jdk_52_method_26_code 5 = .ok (.iload_n 1, 1) := by decide +kernel
theorem d28_6 : decode jdk_52_method_26_code 6 = .ok (.iload_n 2, 1) := by decide +kernel
theorem d28_7 : decode jdk_52_method_26_code 7 = .ok (.iload_n 1, 1) := by decide +kernel
theorem d28_8 : decode jdk_52_method_26_code 8 = .ok (.isub, 1) := by decide +kernel
theorem d28_9 : decode jdk_52_method_26_code 9 = .ok (.aload_n 0, 1) := by decide +kernel
theorem d28_10 : decode jdk_52_method_26_code 10 = .ok (.invokestatic 173, 3) := by decide +kernel
theorem d28_13 : decode jdk_52_method_26_code 13 = .ok (.iload_n 1, 1) := by decide +kernel
theorem d28_14 : decode jdk_52_method_26_code 14 = .ok (.istore 5, 2) := by decide +kernel
theorem d28_16 : decode jdk_52_method_26_code 16 = .ok (.iload 5, 2) := by decide +kernel
theorem d28_18 : decode jdk_52_method_26_code 18 = .ok (.iload_n 2, 1) := by decide +kernel
theorem d28_19 : decode jdk_52_method_26_code 19 = .ok (.if_icmp .ge 22, 3) := by decide +kernel
theorem d28_22 : decode jdk_52_method_26_code 22 = .ok (.aload_n 3, 1) := by decide +kernel
theorem d28_23 : decode jdk_52_method_26_code 23 = .ok (.iload 4, 2) := by decide +kernel
theorem d28_25 : decode jdk_52_method_26_code 25 = .ok (.iinc 4 1, 3) := by decide +kernel
theorem d28_28 : decode jdk_52_method_26_code 28 = .ok (.aload_n 0, 1) := by decide +kernel
theorem d28_29 : decode jdk_52_method_26_code 29 = .ok (.iload 5, 2) := by decide +kernel
theorem d28_31 : decode jdk_52_method_26_code 31 = .ok (.invokestatic 71, 3) := by decide +kernel
theorem d28_34 : decode jdk_52_method_26_code 34 = .ok (.castore, 1) := by decide +kernel
theorem d28_35 : decode jdk_52_method_26_code 35 = .ok (.iinc 5 1, 3) := by decide +kernel
theorem d28_38 : decode jdk_52_method_26_code 38 = .ok (.goto (-22), 3) := by decide +kernel
theorem d28_41 : decode jdk_52_method_26_code 41 = .ok (.return_, 1) := by decide +kernel
theorem pd_15 : parseMethodDescriptor "(II[B)V" = some ⟨[.int, .int, (.array .byte)], none⟩ := by decide +kernel
theorem ef_rm28 (m : MethodId) (x0 : Addr) (x3 : Addr) : entryFrame m #[(.ref x0), (.int (0 : Int32)), (.int (4 : Int32)), (.ref x3), (.int (0 : Int32))] 6 = mkF m 0 #[.val (.ref x0), .val (.int (0 : Int32)), .val (.int (4 : Int32)), .val (.ref x3), .val (.int (0 : Int32)), .unset] [] := by first | (simp [entryFrame, mkF, argsToLocals, Value.category]; done) | rfl
set_option maxRecDepth 65536 in
set_option maxHeartbeats 40000000 in
theorem rm28 (l : Launch) (Z : State) (a0 : Array Value) (hw : ∀ d ∈ tables_1, d.before a0 Z = true) (ws : List Jvm.Cond) (a1 : Addr) (k1 : ClassId) (c0 c1 c2 c3 c4 c5 c6 c7 : Int32) (d : Addr) (kd : ClassId) (z : Int32) (vs : List Value) (cs : Int32) (fv : Value) (h0 : Heap) (n0 : Nat) (Z0 : n0 ≤ h0.size) (V1 : Arv Z h0 a1 k1 .byte (8 : Int32) [(.int c0), (.int c1), (.int c2), (.int c3), (.int c4), (.int c5), (.int c6), (.int c7)] (Value.int (0 : Int32))) (VD : Arv Z h0 d kd .char z vs (Value.int (0 : Int32))) (ned : a1 ≠ d) (gd : n0 ≤ d) (hq4 : ¬ z < 4) (SC : Sta Z Z.heap "java/lang/String" "COMPACT_STRINGS" "Z" (.int cs)) (hcs : ¬ cs = 0) (SA : Sta Z Z.heap "java/lang/StringUTF16" "$assertionsDisabled" "Z" (.int (1 : Int32))) (SH : Sta Z Z.heap "java/lang/StringUTF16" "HI_BYTE_SHIFT" "I" (.int (0 : Int32))) (SL : Sta Z Z.heap "java/lang/StringUTF16" "LO_BYTE_SHIFT" "I" (.int (8 : Int32))) (SF : Sta Z Z.heap "jdk/internal/util/Preconditions" "SIOOBE_FORMATTER" "Ljava/util/function/BiFunction;" fv) (hfv : fv = .null ∨ ∃ a, fv = .ref a) (O0 : Old Z n0 h0) :
    MetFree l (⟨"java/lang/StringUTF16", "getChars", "([BII[CI)V"⟩ : MethodName) (head1 (Jvm.Cond.code (⟨"java/lang/StringUTF16", "getChars", "([BII[CI)V"⟩ : MethodName) jdk_52_method_26_code 6 none :: ws) ({ frames := 3, cells := 0, slots := 0, locals := 43 } : Room)) (fun a U => a = #[(.ref a1), (.int (0 : Int32)), (.int (4 : Int32)), (.ref d), (.int (0 : Int32))] ∧ Z.Warmed39 U.vm ∧ U.heap = h0) (fun _ _ _ _ _ => True) (fun _ U o U' => ∃ v L, o = .returned v ∧ Q28 Z d kd z c0 c1 c2 c3 c4 c5 c6 c7 h0 n0 v U'.heap L ∧ FrameEnd U o U' L ({ frames := 3, cells := 0, slots := 0, locals := 43 } : Room).cells ({ frames := 3, cells := 0, slots := 0, locals := 43 } : Room).slots) := by
  refine MetFree.of_bodySF (plainFor_of_name pn_java_lang_StringUTF16) hisR ?_
  intro p e s m args below meth c s₁ Bd hml0 hP hK
  obtain ⟨rfl, hZ, hh⟩ := hP
  have hx := Bd.exec
  have hby := Bd.bytes
  have hml : c.maxLocals = 6 := hml0
  have hown : s.vm.findClass "java/lang/StringUTF16" = some m.cls := findClass_of_methodNamed Bd.named
  have hnm := (name_of_methodNamed Bd.named Bd.method).1
  have X0 : Stand p l e ({ frames := 3, cells := 0, slots := 0, locals := 43 } : Room) s m #[(.ref a1), (.int (0 : Int32)), (.int (4 : Int32)), (.ref d), (.int (0 : Int32))] below meth c s₁ [] 0 0 := Stand.of_body Bd
  have e0 : s₁.heap = h0 := by rw [← hh, Bd.state]; rfl
  have N0 := Fr.nil n0
  have KP0 : Keep h0 h0 [d] := Keep.refl h0 _
  obtain ⟨G, hG⟩ : ∃ G : State, G = s₁.setTop (entryFrame m #[(.ref a1), (.int (0 : Int32)), (.int (4 : Int32)), (.ref d), (.int (0 : Int32))] 6) := ⟨_, rfl⟩
  have pre0 : ∀ t, Steps p.tables e below (s₁.setTop (mkF m 0 #[.val (.ref a1), .val (.int (0 : Int32)), .val (.int (4 : Int32)), .val (.ref d), .val (.int (0 : Int32)), .unset] [])) t → Steps p.tables e below G t := fun t k => hG ▸ castTop (ef_rm28 m a1 d) k
  have K1 : ∀ t, Steps p.tables e below (s₁.setTop (mkF m 10 #[.val (.ref a1), .val (.int (0 : Int32)), .val (.int (4 : Int32)), .val (.ref d), .val (.int (0 : Int32)), .unset] [(.ref a1), (.int (4 : Int32)), (.int (0 : Int32))])) t → Steps p.tables e below G t := by
    intro t k
    refine pre0 t ?_
    refine XS.iloadN X0.here hx rfl (hb hby d28_0) rfl ?_
    refine XS.iloadN X0.here hx rfl (hb hby d28_1) rfl ?_
    refine XS.icmpNo X0.here hx rfl (hb hby d28_2) rfl (tlt (by decide)).2.1 ?_
    refine XS.iloadN X0.here hx rfl (hb hby d28_5) rfl ?_
    refine XS.iloadN X0.here hx rfl (hb hby d28_6) rfl ?_
    refine XS.iloadN X0.here hx rfl (hb hby d28_7) rfl ?_
    refine XS.isub X0.here hx rfl (hb hby d28_8) rfl ?_
    refine XS.aloadN X0.here hx rfl (hb hby d28_9) rfl rfl ?_
    exact k
  obtain ⟨_, _, ⟨T2, L2, kk2, nn2⟩, -, X2, ⟨Lc2, hQ2, lq2, yq2, zq2⟩, st2⟩ := Jvm.LawKit.callS X0 hx (y := (⟨"java/lang/StringUTF16", "checkBoundsOffCount", "(II[B)V"⟩ : MethodName)) hown (mvT hZ (hw _ (List.mem_of_getElem? (i := 132) rfl))) (mvT hZ (hw _ (List.mem_of_getElem? (i := 133) rfl))) (mvT hZ (hw _ (List.mem_of_getElem? (i := 36) rfl))) (mvT hZ (hw _ (List.mem_of_getElem? (i := 134) rfl))) (by decide) (backOf (W := 0) (rm29_u l Z a0 hw [] a1 k1 c0 c1 c2 c3 c4 c5 c6 c7 cs fv h0 n0 Z0 V1 SC hcs SA SH SL SF hfv O0) hZ (hw _ (List.mem_of_getElem? (i := 134) rfl)) (hw _ (List.mem_of_getElem? (i := 36) rfl)) (by decide) (by decide)) (g := (mkF m 10 #[.val (.ref a1), .val (.int (0 : Int32)), .val (.int (4 : Int32)), .val (.ref d), .val (.int (0 : Int32)), .unset] [(.ref a1), (.int (4 : Int32)), (.int (0 : Int32))])) rfl (by rw [hml]; rfl) (argsL := [(.int (0 : Int32)), (.int (4 : Int32)), (.ref a1)]) (rest := []) (lenOf pd_15 rfl) rfl (by show 2 * 0 + _ ≤ _; exact Nat.le_of_eq rfl) (hb hby d28_10) (fun _ _ => ⟨rfl, e0, (by decide : 0 + 0 ≤ _), (by decide : 0 + 0 ≤ _)⟩)
  dsimp only [Pt.U, Pt.locs, Pt.cells, Pt.slots] at X2 lq2 yq2 zq2 st2 hQ2
  subst lq2 yq2 zq2
  obtain ⟨rfl, Nq2, e2⟩ := hQ2
  have N3 := Fr.app N0 Nq2
  have K4 : ∀ t, Steps p.tables e below (T2.setTop (mkF m 13 #[.val (.ref a1), .val (.int (0 : Int32)), .val (.int (4 : Int32)), .val (.ref d), .val (.int (0 : Int32)), .unset] [])) t → Steps p.tables e below G t := fun t k => K1 t (st2 _ k)
  have K5 : ∀ t, Steps p.tables e below (T2.setTop (mkF m 31 #[.val (.ref a1), .val (.int (0 : Int32)), .val (.int (4 : Int32)), .val (.ref d), .val (.int (1 : Int32)), .val (.int (0 : Int32))] [(.int (0 : Int32)), (.ref a1), (.int (0 : Int32)), (.ref d)])) t → Steps p.tables e below G t := by
    intro t k
    refine K4 t ?_
    refine XS.iloadN X2.here hx rfl (hb hby d28_13) rfl ?_
    refine XS.istore X2.here hx rfl (hb hby d28_14) rfl (l' := #[.val (.ref a1), .val (.int (0 : Int32)), .val (.int (4 : Int32)), .val (.ref d), .val (.int (0 : Int32)), .val (.int (0 : Int32))]) rfl ?_
    refine XS.iload X2.here hx rfl (hb hby d28_16) rfl ?_
    refine XS.iloadN X2.here hx rfl (hb hby d28_18) rfl ?_
    refine XS.icmpNo X2.here hx rfl (hb hby d28_19) rfl (tlt (by decide)).2.1 ?_
    refine XS.aloadN X2.here hx rfl (hb hby d28_22) rfl rfl ?_
    refine XS.iload X2.here hx rfl (hb hby d28_23) rfl ?_
    refine XS.iinc X2.here hx rfl (hb hby d28_25) rfl (l' := #[.val (.ref a1), .val (.int (0 : Int32)), .val (.int (4 : Int32)), .val (.ref d), .val (.int (1 : Int32)), .val (.int (0 : Int32))]) rfl ?_
    refine XS.aloadN X2.here hx rfl (hb hby d28_28) rfl rfl ?_
    refine XS.iload X2.here hx rfl (hb hby d28_29) rfl ?_
    exact k
  obtain ⟨_, _, ⟨T6, L6, kk6, nn6⟩, -, X6, ⟨Lc6, hQ6, lq6, yq6, zq6⟩, st6⟩ := Jvm.LawKit.callS X2 hx (y := (⟨"java/lang/StringUTF16", "getChar", "([BI)C"⟩ : MethodName)) hown (mvT hZ (hw _ (List.mem_of_getElem? (i := 58) rfl))) (mvT hZ (hw _ (List.mem_of_getElem? (i := 59) rfl))) (mvT hZ (hw _ (List.mem_of_getElem? (i := 36) rfl))) (mvT hZ (hw _ (List.mem_of_getElem? (i := 60) rfl))) (by decide) (backOf (W := 2) (rm13_0 l Z a0 hw [] a1 k1 c0 c1 c2 c3 c4 c5 c6 c7 cs fv h0 n0 Z0 V1 SC hcs SA SH SL SF hfv O0) hZ (hw _ (List.mem_of_getElem? (i := 60) rfl)) (hw _ (List.mem_of_getElem? (i := 36) rfl)) (by decide) (by decide)) (g := (mkF m 31 #[.val (.ref a1), .val (.int (0 : Int32)), .val (.int (4 : Int32)), .val (.ref d), .val (.int (1 : Int32)), .val (.int (0 : Int32))] [(.int (0 : Int32)), (.ref a1), (.int (0 : Int32)), (.ref d)])) rfl (by rw [hml]; rfl) (argsL := [(.ref a1), (.int (0 : Int32))]) (rest := [(.int (0 : Int32)), (.ref d)]) (lenOf pd_11 rfl) rfl (by show 2 * 0 + _ ≤ _; exact Nat.le_of_eq rfl) (hb hby d28_31) (fun _ _ => ⟨rfl, e2, (by decide : 0 + 0 ≤ _), (by decide : 0 + 0 ≤ _)⟩)
  dsimp only [Pt.U, Pt.locs, Pt.cells, Pt.slots] at X6 lq6 yq6 zq6 st6 hQ6
  subst lq6 yq6 zq6
  obtain ⟨rfl, Nq6, e6⟩ := hQ6
  have N7 := Fr.app N3 Nq6
  have K8 : ∀ t, Steps p.tables e below (T6.setTop (mkF m 34 #[.val (.ref a1), .val (.int (0 : Int32)), .val (.int (4 : Int32)), .val (.ref d), .val (.int (1 : Int32)), .val (.int (0 : Int32))] [(.int (own_g c0 c1)), (.int (0 : Int32)), (.ref d)])) t → Steps p.tables e below G t := fun t k => K5 t (st6 _ k)
  have l16 : 16 ≤ (vs ++ List.replicate 16 (Value.int (0 : Int32))).length := own_padl _ _
  obtain ⟨cl9, Ar9, q9, S9, M9, Ha9, Ga9⟩ := id (VD.pad (pad_rep vs (Value.int (0 : Int32)) 16))
  have hin9 : ¬ ((0 : Int32) < 0 ∨ cl9.slots.size ≤ ((0 : Int32)).toNatClampNeg) := inb_of S9 (own_lt4 hq4 _ ⟨by decide, by decide⟩)
  obtain ⟨T9, h9, X9, e9, W9, st9⟩ := stC X6 hx hZ e6 Ar9 (j := (0 : Int32)) hin9 (g := (mkF m 34 #[.val (.ref a1), .val (.int (0 : Int32)), .val (.int (4 : Int32)), .val (.ref d), .val (.int (1 : Int32)), .val (.int (0 : Int32))] [(.int (own_g c0 c1)), (.int (0 : Int32)), (.ref d)])) rfl rfl (hb hby d28_34)
  have V9 : Arv Z h9 d kd .char z ((vs ++ List.replicate 16 (Value.int (0 : Int32))).set 0 (.int (nar .char (own_g c0 c1)))) (Value.int (0 : Int32)) := Arv.set Ar9 q9 S9 M9 Ha9 Ga9 (fits_nar_char _) W9 _ rfl (Nat.lt_of_lt_of_le (by decide) l16)
  have lq9 : 16 ≤ ((vs ++ List.replicate 16 (Value.int (0 : Int32))).set 0 (.int (nar .char (own_g c0 c1)))).length := own_l16 l16
  have K10 : ∀ t, Steps p.tables e below (T9.setTop (mkF m 35 #[.val (.ref a1), .val (.int (0 : Int32)), .val (.int (4 : Int32)), .val (.ref d), .val (.int (1 : Int32)), .val (.int (0 : Int32))] [])) t → Steps p.tables e below G t := fun t k => K8 t (st9 t k)
  have f11 := V1.other W9 ned
  have f12 := O0.wr W9 gd
  have Z13 : n0 ≤ h9.size := Nat.le_trans Z0 (Keep.of_wr W9).1
  have KP14 : Keep h0 h9 [d] := KP0.wr W9 (Or.inl (List.mem_of_getElem? (i := 0) rfl))
  have N15 := Fr.snoc X9 N7 gd
  have K16 : ∀ t, Steps p.tables e below (T9.setTop (mkF m 31 #[.val (.ref a1), .val (.int (0 : Int32)), .val (.int (4 : Int32)), .val (.ref d), .val (.int (2 : Int32)), .val (.int (1 : Int32))] [(.int (1 : Int32)), (.ref a1), (.int (1 : Int32)), (.ref d)])) t → Steps p.tables e below G t := by
    intro t k
    refine K10 t ?_
    refine XS.iinc X9.here hx rfl (hb hby d28_35) rfl (l' := #[.val (.ref a1), .val (.int (0 : Int32)), .val (.int (4 : Int32)), .val (.ref d), .val (.int (1 : Int32)), .val (.int (1 : Int32))]) rfl ?_
    refine XS.goto X9.here hx rfl (pc0 := 38) (pc' := 16) rfl (hb hby d28_38) (by decide) (by decide) ?_
    refine XS.iload X9.here hx rfl (hb hby d28_16) rfl ?_
    refine XS.iloadN X9.here hx rfl (hb hby d28_18) rfl ?_
    refine XS.icmpNo X9.here hx rfl (hb hby d28_19) rfl (tlt (by decide)).2.1 ?_
    refine XS.aloadN X9.here hx rfl (hb hby d28_22) rfl rfl ?_
    refine XS.iload X9.here hx rfl (hb hby d28_23) rfl ?_
    refine XS.iinc X9.here hx rfl (hb hby d28_25) rfl (l' := #[.val (.ref a1), .val (.int (0 : Int32)), .val (.int (4 : Int32)), .val (.ref d), .val (.int (2 : Int32)), .val (.int (1 : Int32))]) rfl ?_
    refine XS.aloadN X9.here hx rfl (hb hby d28_28) rfl rfl ?_
    refine XS.iload X9.here hx rfl (hb hby d28_29) rfl ?_
    exact k
  obtain ⟨_, _, ⟨T17, L17, kk17, nn17⟩, -, X17, ⟨Lc17, hQ17, lq17, yq17, zq17⟩, st17⟩ := Jvm.LawKit.callS X9 hx (y := (⟨"java/lang/StringUTF16", "getChar", "([BI)C"⟩ : MethodName)) hown (mvT hZ (hw _ (List.mem_of_getElem? (i := 58) rfl))) (mvT hZ (hw _ (List.mem_of_getElem? (i := 59) rfl))) (mvT hZ (hw _ (List.mem_of_getElem? (i := 36) rfl))) (mvT hZ (hw _ (List.mem_of_getElem? (i := 60) rfl))) (by decide) (backOf (W := 2) (rm13_1 l Z a0 hw [] a1 k1 c0 c1 c2 c3 c4 c5 c6 c7 cs fv h9 n0 Z13 f11 SC hcs SA SH SL SF hfv f12) hZ (hw _ (List.mem_of_getElem? (i := 60) rfl)) (hw _ (List.mem_of_getElem? (i := 36) rfl)) (by decide) (by decide)) (g := (mkF m 31 #[.val (.ref a1), .val (.int (0 : Int32)), .val (.int (4 : Int32)), .val (.ref d), .val (.int (2 : Int32)), .val (.int (1 : Int32))] [(.int (1 : Int32)), (.ref a1), (.int (1 : Int32)), (.ref d)])) rfl (by rw [hml]; rfl) (argsL := [(.ref a1), (.int (1 : Int32))]) (rest := [(.int (1 : Int32)), (.ref d)]) (lenOf pd_11 rfl) rfl (by show 2 * 0 + _ ≤ _; exact Nat.le_of_eq rfl) (hb hby d28_31) (fun _ _ => ⟨rfl, e9, (by decide : 0 + 0 ≤ _), (by decide : 0 + 0 ≤ _)⟩)
  dsimp only [Pt.U, Pt.locs, Pt.cells, Pt.slots] at X17 lq17 yq17 zq17 st17 hQ17
  subst lq17 yq17 zq17
  obtain ⟨rfl, Nq17, e17⟩ := hQ17
  have N18 := Fr.app N15 Nq17
  have K19 : ∀ t, Steps p.tables e below (T17.setTop (mkF m 34 #[.val (.ref a1), .val (.int (0 : Int32)), .val (.int (4 : Int32)), .val (.ref d), .val (.int (2 : Int32)), .val (.int (1 : Int32))] [(.int (own_g c2 c3)), (.int (1 : Int32)), (.ref d)])) t → Steps p.tables e below G t := fun t k => K16 t (st17 _ k)
  obtain ⟨cl20, Ar20, q20, S20, M20, Ha20, Ga20⟩ := id (V9)
  have hin20 : ¬ ((1 : Int32) < 0 ∨ cl20.slots.size ≤ ((1 : Int32)).toNatClampNeg) := inb_of S20 (own_lt4 hq4 _ ⟨by decide, by decide⟩)
  obtain ⟨T20, h20, X20, e20, W20, st20⟩ := stC X17 hx hZ e17 Ar20 (j := (1 : Int32)) hin20 (g := (mkF m 34 #[.val (.ref a1), .val (.int (0 : Int32)), .val (.int (4 : Int32)), .val (.ref d), .val (.int (2 : Int32)), .val (.int (1 : Int32))] [(.int (own_g c2 c3)), (.int (1 : Int32)), (.ref d)])) rfl rfl (hb hby d28_34)
  have V20 : Arv Z h20 d kd .char z (((vs ++ List.replicate 16 (Value.int (0 : Int32))).set 0 (.int (nar .char (own_g c0 c1)))).set 1 (.int (nar .char (own_g c2 c3)))) (Value.int (0 : Int32)) := Arv.set Ar20 q20 S20 M20 Ha20 Ga20 (fits_nar_char _) W20 _ rfl (Nat.lt_of_lt_of_le (by decide) lq9)
  have lq20 : 16 ≤ (((vs ++ List.replicate 16 (Value.int (0 : Int32))).set 0 (.int (nar .char (own_g c0 c1)))).set 1 (.int (nar .char (own_g c2 c3)))).length := own_l16 lq9
  have K21 : ∀ t, Steps p.tables e below (T20.setTop (mkF m 35 #[.val (.ref a1), .val (.int (0 : Int32)), .val (.int (4 : Int32)), .val (.ref d), .val (.int (2 : Int32)), .val (.int (1 : Int32))] [])) t → Steps p.tables e below G t := fun t k => K19 t (st20 t k)
  have f22 := f11.other W20 ned
  have f23 := f12.wr W20 gd
  have Z24 : n0 ≤ h20.size := Nat.le_trans Z13 (Keep.of_wr W20).1
  have KP25 : Keep h0 h20 [d] := KP14.wr W20 (Or.inl (List.mem_of_getElem? (i := 0) rfl))
  have N26 := Fr.snoc X20 N18 gd
  have K27 : ∀ t, Steps p.tables e below (T20.setTop (mkF m 31 #[.val (.ref a1), .val (.int (0 : Int32)), .val (.int (4 : Int32)), .val (.ref d), .val (.int (3 : Int32)), .val (.int (2 : Int32))] [(.int (2 : Int32)), (.ref a1), (.int (2 : Int32)), (.ref d)])) t → Steps p.tables e below G t := by
    intro t k
    refine K21 t ?_
    refine XS.iinc X20.here hx rfl (hb hby d28_35) rfl (l' := #[.val (.ref a1), .val (.int (0 : Int32)), .val (.int (4 : Int32)), .val (.ref d), .val (.int (2 : Int32)), .val (.int (2 : Int32))]) rfl ?_
    refine XS.goto X20.here hx rfl (pc0 := 38) (pc' := 16) rfl (hb hby d28_38) (by decide) (by decide) ?_
    refine XS.iload X20.here hx rfl (hb hby d28_16) rfl ?_
    refine XS.iloadN X20.here hx rfl (hb hby d28_18) rfl ?_
    refine XS.icmpNo X20.here hx rfl (hb hby d28_19) rfl (tlt (by decide)).2.1 ?_
    refine XS.aloadN X20.here hx rfl (hb hby d28_22) rfl rfl ?_
    refine XS.iload X20.here hx rfl (hb hby d28_23) rfl ?_
    refine XS.iinc X20.here hx rfl (hb hby d28_25) rfl (l' := #[.val (.ref a1), .val (.int (0 : Int32)), .val (.int (4 : Int32)), .val (.ref d), .val (.int (3 : Int32)), .val (.int (2 : Int32))]) rfl ?_
    refine XS.aloadN X20.here hx rfl (hb hby d28_28) rfl rfl ?_
    refine XS.iload X20.here hx rfl (hb hby d28_29) rfl ?_
    exact k
  obtain ⟨_, _, ⟨T28, L28, kk28, nn28⟩, -, X28, ⟨Lc28, hQ28, lq28, yq28, zq28⟩, st28⟩ := Jvm.LawKit.callS X20 hx (y := (⟨"java/lang/StringUTF16", "getChar", "([BI)C"⟩ : MethodName)) hown (mvT hZ (hw _ (List.mem_of_getElem? (i := 58) rfl))) (mvT hZ (hw _ (List.mem_of_getElem? (i := 59) rfl))) (mvT hZ (hw _ (List.mem_of_getElem? (i := 36) rfl))) (mvT hZ (hw _ (List.mem_of_getElem? (i := 60) rfl))) (by decide) (backOf (W := 2) (rm13_2 l Z a0 hw [] a1 k1 c0 c1 c2 c3 c4 c5 c6 c7 cs fv h20 n0 Z24 f22 SC hcs SA SH SL SF hfv f23) hZ (hw _ (List.mem_of_getElem? (i := 60) rfl)) (hw _ (List.mem_of_getElem? (i := 36) rfl)) (by decide) (by decide)) (g := (mkF m 31 #[.val (.ref a1), .val (.int (0 : Int32)), .val (.int (4 : Int32)), .val (.ref d), .val (.int (3 : Int32)), .val (.int (2 : Int32))] [(.int (2 : Int32)), (.ref a1), (.int (2 : Int32)), (.ref d)])) rfl (by rw [hml]; rfl) (argsL := [(.ref a1), (.int (2 : Int32))]) (rest := [(.int (2 : Int32)), (.ref d)]) (lenOf pd_11 rfl) rfl (by show 2 * 0 + _ ≤ _; exact Nat.le_of_eq rfl) (hb hby d28_31) (fun _ _ => ⟨rfl, e20, (by decide : 0 + 0 ≤ _), (by decide : 0 + 0 ≤ _)⟩)
  dsimp only [Pt.U, Pt.locs, Pt.cells, Pt.slots] at X28 lq28 yq28 zq28 st28 hQ28
  subst lq28 yq28 zq28
  obtain ⟨rfl, Nq28, e28⟩ := hQ28
  have N29 := Fr.app N26 Nq28
  have K30 : ∀ t, Steps p.tables e below (T28.setTop (mkF m 34 #[.val (.ref a1), .val (.int (0 : Int32)), .val (.int (4 : Int32)), .val (.ref d), .val (.int (3 : Int32)), .val (.int (2 : Int32))] [(.int (own_g c4 c5)), (.int (2 : Int32)), (.ref d)])) t → Steps p.tables e below G t := fun t k => K27 t (st28 _ k)
  obtain ⟨cl31, Ar31, q31, S31, M31, Ha31, Ga31⟩ := id (V20)
  have hin31 : ¬ ((2 : Int32) < 0 ∨ cl31.slots.size ≤ ((2 : Int32)).toNatClampNeg) := inb_of S31 (own_lt4 hq4 _ ⟨by decide, by decide⟩)
  obtain ⟨T31, h31, X31, e31, W31, st31⟩ := stC X28 hx hZ e28 Ar31 (j := (2 : Int32)) hin31 (g := (mkF m 34 #[.val (.ref a1), .val (.int (0 : Int32)), .val (.int (4 : Int32)), .val (.ref d), .val (.int (3 : Int32)), .val (.int (2 : Int32))] [(.int (own_g c4 c5)), (.int (2 : Int32)), (.ref d)])) rfl rfl (hb hby d28_34)
  have V31 : Arv Z h31 d kd .char z ((((vs ++ List.replicate 16 (Value.int (0 : Int32))).set 0 (.int (nar .char (own_g c0 c1)))).set 1 (.int (nar .char (own_g c2 c3)))).set 2 (.int (nar .char (own_g c4 c5)))) (Value.int (0 : Int32)) := Arv.set Ar31 q31 S31 M31 Ha31 Ga31 (fits_nar_char _) W31 _ rfl (Nat.lt_of_lt_of_le (by decide) lq20)
  have lq31 : 16 ≤ ((((vs ++ List.replicate 16 (Value.int (0 : Int32))).set 0 (.int (nar .char (own_g c0 c1)))).set 1 (.int (nar .char (own_g c2 c3)))).set 2 (.int (nar .char (own_g c4 c5)))).length := own_l16 lq20
  have K32 : ∀ t, Steps p.tables e below (T31.setTop (mkF m 35 #[.val (.ref a1), .val (.int (0 : Int32)), .val (.int (4 : Int32)), .val (.ref d), .val (.int (3 : Int32)), .val (.int (2 : Int32))] [])) t → Steps p.tables e below G t := fun t k => K30 t (st31 t k)
  have f33 := f22.other W31 ned
  have f34 := f23.wr W31 gd
  have Z35 : n0 ≤ h31.size := Nat.le_trans Z24 (Keep.of_wr W31).1
  have KP36 : Keep h0 h31 [d] := KP25.wr W31 (Or.inl (List.mem_of_getElem? (i := 0) rfl))
  have N37 := Fr.snoc X31 N29 gd
  have K38 : ∀ t, Steps p.tables e below (T31.setTop (mkF m 31 #[.val (.ref a1), .val (.int (0 : Int32)), .val (.int (4 : Int32)), .val (.ref d), .val (.int (4 : Int32)), .val (.int (3 : Int32))] [(.int (3 : Int32)), (.ref a1), (.int (3 : Int32)), (.ref d)])) t → Steps p.tables e below G t := by
    intro t k
    refine K32 t ?_
    refine XS.iinc X31.here hx rfl (hb hby d28_35) rfl (l' := #[.val (.ref a1), .val (.int (0 : Int32)), .val (.int (4 : Int32)), .val (.ref d), .val (.int (3 : Int32)), .val (.int (3 : Int32))]) rfl ?_
    refine XS.goto X31.here hx rfl (pc0 := 38) (pc' := 16) rfl (hb hby d28_38) (by decide) (by decide) ?_
    refine XS.iload X31.here hx rfl (hb hby d28_16) rfl ?_
    refine XS.iloadN X31.here hx rfl (hb hby d28_18) rfl ?_
    refine XS.icmpNo X31.here hx rfl (hb hby d28_19) rfl (tlt (by decide)).2.1 ?_
    refine XS.aloadN X31.here hx rfl (hb hby d28_22) rfl rfl ?_
    refine XS.iload X31.here hx rfl (hb hby d28_23) rfl ?_
    refine XS.iinc X31.here hx rfl (hb hby d28_25) rfl (l' := #[.val (.ref a1), .val (.int (0 : Int32)), .val (.int (4 : Int32)), .val (.ref d), .val (.int (4 : Int32)), .val (.int (3 : Int32))]) rfl ?_
    refine XS.aloadN X31.here hx rfl (hb hby d28_28) rfl rfl ?_
    refine XS.iload X31.here hx rfl (hb hby d28_29) rfl ?_
    exact k
  obtain ⟨_, _, ⟨T39, L39, kk39, nn39⟩, -, X39, ⟨Lc39, hQ39, lq39, yq39, zq39⟩, st39⟩ := Jvm.LawKit.callS X31 hx (y := (⟨"java/lang/StringUTF16", "getChar", "([BI)C"⟩ : MethodName)) hown (mvT hZ (hw _ (List.mem_of_getElem? (i := 58) rfl))) (mvT hZ (hw _ (List.mem_of_getElem? (i := 59) rfl))) (mvT hZ (hw _ (List.mem_of_getElem? (i := 36) rfl))) (mvT hZ (hw _ (List.mem_of_getElem? (i := 60) rfl))) (by decide) (backOf (W := 2) (rm13_3 l Z a0 hw [] a1 k1 c0 c1 c2 c3 c4 c5 c6 c7 cs fv h31 n0 Z35 f33 SC hcs SA SH SL SF hfv f34) hZ (hw _ (List.mem_of_getElem? (i := 60) rfl)) (hw _ (List.mem_of_getElem? (i := 36) rfl)) (by decide) (by decide)) (g := (mkF m 31 #[.val (.ref a1), .val (.int (0 : Int32)), .val (.int (4 : Int32)), .val (.ref d), .val (.int (4 : Int32)), .val (.int (3 : Int32))] [(.int (3 : Int32)), (.ref a1), (.int (3 : Int32)), (.ref d)])) rfl (by rw [hml]; rfl) (argsL := [(.ref a1), (.int (3 : Int32))]) (rest := [(.int (3 : Int32)), (.ref d)]) (lenOf pd_11 rfl) rfl (by show 2 * 0 + _ ≤ _; exact Nat.le_of_eq rfl) (hb hby d28_31) (fun _ _ => ⟨rfl, e31, (by decide : 0 + 0 ≤ _), (by decide : 0 + 0 ≤ _)⟩)
  dsimp only [Pt.U, Pt.locs, Pt.cells, Pt.slots] at X39 lq39 yq39 zq39 st39 hQ39
  subst lq39 yq39 zq39
  obtain ⟨rfl, Nq39, e39⟩ := hQ39
  have N40 := Fr.app N37 Nq39
  have K41 : ∀ t, Steps p.tables e below (T39.setTop (mkF m 34 #[.val (.ref a1), .val (.int (0 : Int32)), .val (.int (4 : Int32)), .val (.ref d), .val (.int (4 : Int32)), .val (.int (3 : Int32))] [(.int (own_g c6 c7)), (.int (3 : Int32)), (.ref d)])) t → Steps p.tables e below G t := fun t k => K38 t (st39 _ k)
  obtain ⟨cl42, Ar42, q42, S42, M42, Ha42, Ga42⟩ := id (V31)
  have hin42 : ¬ ((3 : Int32) < 0 ∨ cl42.slots.size ≤ ((3 : Int32)).toNatClampNeg) := inb_of S42 (own_lt4 hq4 _ ⟨by decide, by decide⟩)
  obtain ⟨T42, h42, X42, e42, W42, st42⟩ := stC X39 hx hZ e39 Ar42 (j := (3 : Int32)) hin42 (g := (mkF m 34 #[.val (.ref a1), .val (.int (0 : Int32)), .val (.int (4 : Int32)), .val (.ref d), .val (.int (4 : Int32)), .val (.int (3 : Int32))] [(.int (own_g c6 c7)), (.int (3 : Int32)), (.ref d)])) rfl rfl (hb hby d28_34)
  have V42 : Arv Z h42 d kd .char z (((((vs ++ List.replicate 16 (Value.int (0 : Int32))).set 0 (.int (nar .char (own_g c0 c1)))).set 1 (.int (nar .char (own_g c2 c3)))).set 2 (.int (nar .char (own_g c4 c5)))).set 3 (.int (nar .char (own_g c6 c7)))) (Value.int (0 : Int32)) := Arv.set Ar42 q42 S42 M42 Ha42 Ga42 (fits_nar_char _) W42 _ rfl (Nat.lt_of_lt_of_le (by decide) lq31)
  have lq42 : 16 ≤ (((((vs ++ List.replicate 16 (Value.int (0 : Int32))).set 0 (.int (nar .char (own_g c0 c1)))).set 1 (.int (nar .char (own_g c2 c3)))).set 2 (.int (nar .char (own_g c4 c5)))).set 3 (.int (nar .char (own_g c6 c7)))).length := own_l16 lq31
  have K43 : ∀ t, Steps p.tables e below (T42.setTop (mkF m 35 #[.val (.ref a1), .val (.int (0 : Int32)), .val (.int (4 : Int32)), .val (.ref d), .val (.int (4 : Int32)), .val (.int (3 : Int32))] [])) t → Steps p.tables e below G t := fun t k => K41 t (st42 t k)
  have f44 := f33.other W42 ned
  have f45 := f34.wr W42 gd
  have Z46 : n0 ≤ h42.size := Nat.le_trans Z35 (Keep.of_wr W42).1
  have KP47 : Keep h0 h42 [d] := KP36.wr W42 (Or.inl (List.mem_of_getElem? (i := 0) rfl))
  have N48 := Fr.snoc X42 N40 gd
  obtain ⟨fs, hr, hrun, hended, hW, hsame⟩ := X42.leave (v := none) (fun _ => rfl)
  have KF := K43
  rw [hG] at KF
  refine ⟨_, _, KF _ ?_, hrun, hended, _, _, rfl, ?_, ⟨_, rfl⟩, hW, hsame.mono (by decide) (by decide)⟩
  · refine XS.iinc X42.here hx rfl (hb hby d28_35) rfl (l' := #[.val (.ref a1), .val (.int (0 : Int32)), .val (.int (4 : Int32)), .val (.ref d), .val (.int (4 : Int32)), .val (.int (4 : Int32))]) rfl ?_
    refine XS.goto X42.here hx rfl (pc0 := 38) (pc' := 16) rfl (hb hby d28_38) (by decide) (by decide) ?_
    refine XS.iload X42.here hx rfl (hb hby d28_16) rfl ?_
    refine XS.iloadN X42.here hx rfl (hb hby d28_18) rfl ?_
    refine XS.icmpYes X42.here hx rfl (pc0 := 19) (pc' := 41) rfl (hb hby d28_19) rfl (flt (by decide)).2.1 (by decide) (by decide) ?_
    show Steps p.tables e below (T42.setTop (mkF m 41 #[.val (.ref a1), .val (.int (0 : Int32)), .val (.int (4 : Int32)), .val (.ref d), .val (.int (4 : Int32)), .val (.int (4 : Int32))] [])) _
    exact X42.returnOut hx Bd.returns (hb hby d28_41) hr
  · show Q28 Z d kd z c0 c1 c2 c3 c4 c5 c6 c7 h0 n0 _ T42.heap _
    rw [e42]
    refine ⟨_, rfl, N48, KP47, V42, ?_⟩
    obtain ⟨y0, y1, y2, y3⟩ := own_set4 _ l16 (Value.int (0 : Int32)) (.int (nar .char (own_g c0 c1))) (.int (nar .char (own_g c2 c3))) (.int (nar .char (own_g c4 c5))) (.int (nar .char (own_g c6 c7)))
    exact ⟨y0.trans (congrArg Value.int (own_id (own_nc _).2)), y1.trans (congrArg Value.int (own_id (own_nc _).2)), y2.trans (congrArg Value.int (own_id (own_nc _).2)), y3.trans (congrArg Value.int (own_id (own_nc _).2))⟩
def Q22_l (Z : State) (d : Addr) (kd : ClassId) (z : Int32) (ee0 ee1 ee2 ee3 : Int32) (h0 : Heap) (n0 : Nat) (v : Option Value) (h : Heap) (L : List Loc) : Prop := ∃ vs' : List Value, v = none ∧ Fr n0 L ∧ Keep h0 h [d] ∧ Arv Z h d kd .char z vs' (Value.int (0 : Int32)) ∧ vs'.getD 0 (Value.int (0 : Int32)) = .int ee0 ∧ vs'.getD 1 (Value.int (0 : Int32)) = .int ee1 ∧ vs'.getD 2 (Value.int (0 : Int32)) = .int ee2 ∧ vs'.getD 3 (Value.int (0 : Int32)) = .int ee3
theorem d22_0 : decode jdk_42_method_61_code 0 = .ok (.iload_n 1, 1) := by decide +kernel
theorem d22_1 : decode jdk_42_method_61_code 1 = .ok (.iload_n 2, 1) := by decide +kernel
theorem d22_2 : decode jdk_42_method_61_code 2 = .ok (.aload_n 0, 1) := by decide +kernel
theorem d22_3 : decode jdk_42_method_61_code 3 = .ok (.invokevirtual 505, 3) := by decide +kernel
theorem d22_6 : decode jdk_42_method_61_code 6 = .ok (.invokestatic 521, 3) := by decide +kernel
theorem d22_9 : decode jdk_42_method_61_code 9 = .ok (.iload 4, 2) := by decide +kernel
theorem d22_11 : decode jdk_42_method_61_code 11 = .ok (.iload_n 2, 1) := by decide +kernel
theorem d22_12 : decode jdk_42_method_61_code 12 = .ok (.iload_n 1, 1) := by decide +kernel
theorem d22_13 : decode jdk_42_method_61_code 13 = .ok (.isub, 1) := by decide +kernel
theorem d22_14 : decode jdk_42_method_61_code 14 = .ok (.aload_n 3, 1) := by decide +kernel
theorem d22_15 : decode jdk_42_method_61_code 15 = .ok (.arraylength, 1) := by decide +kernel
theorem d22_16 : decode jdk_42_method_61_code 16 = .ok (.invokestatic 34, 3) := by decide +kernel
theorem d22_19 : decode jdk_42_method_61_code 19 = .ok (.pop, 1) := by decide +kernel
theorem d22_20 : decode jdk_42_method_61_code 20 = .ok (.aload_n 0, 1) := by decide +kernel
theorem d22_21 : decode jdk_42_method_61_code 21 = .ok (.invokevirtual 492, 3) := by decide +kernel
theorem d22_24 : decode jdk_42_method_61_code 24 = .ok (.ifCond .eq 18, 3) := by decide +kernel
theorem d22_27 : decode jdk_42_method_61_code 27 = .ok (.aload_n 0, 1) := by decide +kernel
theorem d22_28 : decode jdk_42_method_61_code 28 = .ok (.getfield 9, 3) := by decide +kernel
theorem d22_31 : decode jdk_42_method_61_code 31 = .ok (.iload_n 1, 1) := by decide +kernel
theorem d22_32 : decode jdk_42_method_61_code 32 = .ok (.iload_n 2, 1) := by decide +kernel
theorem d22_33 : decode jdk_42_method_61_code 33 = .ok (.aload_n 3, 1) := by decide +kernel
theorem d22_34 : decode jdk_42_method_61_code 34 = .ok (.iload 4, 2) := by decide +kernel
theorem d22_36 : decode jdk_42_method_61_code 36 = .ok (.invokestatic 525, 3) := by decide +kernel
theorem d22_39 : decode jdk_42_method_61_code 39 = .ok (.goto 15, 3) := by decide +kernel
theorem d22_42 : decode jdk_42_method_61_code 42 = .ok (.aload_n 0, 1) := by decide +kernel
theorem d22_43 : decode jdk_42_method_61_code 43 = .ok (.getfield 9, 3) := by decide +kernel
theorem d22_46 : decode jdk_42_method_61_code 46 = .ok (.iload_n 1, 1) := by decide +kernel
theorem d22_47 : decode jdk_42_method_61_code 47 = .ok (.iload_n 2, 1) := by decide +kernel
theorem d22_48 : decode jdk_42_method_61_code 48 = .ok (.aload_n 3, 1) := by decide +kernel
theorem d22_49 : decode jdk_42_method_61_code 49 = .ok (.iload 4, 2) := by decide +kernel
theorem d22_51 : decode jdk_42_method_61_code 51 = .ok (.invokestatic 529, 3) := by decide +kernel
theorem d22_54 : decode jdk_42_method_61_code 54 = .ok (.return_, 1) := by decide +kernel
theorem pd_16 : parseMethodDescriptor "()I" = some ⟨[], some .int⟩ := by decide +kernel
theorem pd_17 : parseMethodDescriptor "(III)V" = some ⟨[.int, .int, .int], none⟩ := by decide +kernel
theorem pd_18 : parseMethodDescriptor "()Z" = some ⟨[], some .boolean⟩ := by decide +kernel
theorem pd_19 : parseMethodDescriptor "([BII[CI)V" = some ⟨[(.array .byte), .int, .int, (.array .char), .int], none⟩ := by decide +kernel
theorem ef_rm22_l (m : MethodId) (x0 : Addr) (x3 : Addr) : entryFrame m #[(.ref x0), (.int (0 : Int32)), (.int (4 : Int32)), (.ref x3), (.int (0 : Int32))] 5 = mkF m 0 #[.val (.ref x0), .val (.int (0 : Int32)), .val (.int (4 : Int32)), .val (.ref x3), .val (.int (0 : Int32))] [] := by first | (simp [entryFrame, mkF, argsToLocals, Value.category]; done) | rfl
set_option maxRecDepth 65536 in
set_option maxHeartbeats 40000000 in
theorem rm22_l (l : Launch) (Z : State) (a0 : Array Value) (hw : ∀ d ∈ tables_1, d.before a0 Z = true) (ws : List Jvm.Cond) (a2 a1 : Addr) (k1 : ClassId) (ee0 ee1 ee2 ee3 : Int32) (d : Addr) (kd : ClassId) (z : Int32) (vs : List Value) (cs : Int32) (fv : Value) (h0 : Heap) (n0 : Nat) (Z0 : n0 ≤ h0.size) (E2 : Exa Z h0 a2 "java/lang/String") (FV : Fld Z h0 a2 "java/lang/String" "value" "[B" (.ref a1)) (FC : Fld Z h0 a2 "java/lang/String" "coder" "B" (.int (0 : Int32))) (V1 : Arv Z h0 a1 k1 .byte (4 : Int32) [(.int (own_lb ee0)), (.int (own_lb ee1)), (.int (own_lb ee2)), (.int (own_lb ee3))] (Value.int (0 : Int32))) (VD : Arv Z h0 d kd .char z vs (Value.int (0 : Int32))) (ned : a1 ≠ d) (gd : n0 ≤ d) (hq4 : ¬ z < 4) (ned2 : a2 ≠ d) (hr0 : 0 ≤ ee0.toInt ∧ ee0.toInt < 65536) (hr1 : 0 ≤ ee1.toInt ∧ ee1.toInt < 65536) (hr2 : 0 ≤ ee2.toInt ∧ ee2.toInt < 65536) (hr3 : 0 ≤ ee3.toInt ∧ ee3.toInt < 65536) (hle : ¬ (255 : Int32) < ee0 ∧ ¬ (255 : Int32) < ee1 ∧ ¬ (255 : Int32) < ee2 ∧ ¬ (255 : Int32) < ee3) (SC : Sta Z Z.heap "java/lang/String" "COMPACT_STRINGS" "Z" (.int cs)) (hcs : ¬ cs = 0) (SA : Sta Z Z.heap "java/lang/StringUTF16" "$assertionsDisabled" "Z" (.int (1 : Int32))) (SH : Sta Z Z.heap "java/lang/StringUTF16" "HI_BYTE_SHIFT" "I" (.int (0 : Int32))) (SL : Sta Z Z.heap "java/lang/StringUTF16" "LO_BYTE_SHIFT" "I" (.int (8 : Int32))) (SF : Sta Z Z.heap "jdk/internal/util/Preconditions" "SIOOBE_FORMATTER" "Ljava/util/function/BiFunction;" fv) (hfv : fv = .null ∨ ∃ a, fv = .ref a) (O0 : Old Z n0 h0) :
    MetFree l (⟨"java/lang/String", "getChars", "(II[CI)V"⟩ : MethodName) (head1 (Jvm.Cond.code (⟨"java/lang/String", "getChars", "(II[CI)V"⟩ : MethodName) jdk_42_method_61_code 5 none :: ws) ({ frames := 2, cells := 0, slots := 0, locals := 33 } : Room)) (fun a U => a = #[(.ref a2), (.int (0 : Int32)), (.int (4 : Int32)), (.ref d), (.int (0 : Int32))] ∧ Z.Warmed39 U.vm ∧ U.heap = h0) (fun _ _ _ _ _ => True) (fun _ U o U' => ∃ v L, o = .returned v ∧ Q22_l Z d kd z ee0 ee1 ee2 ee3 h0 n0 v U'.heap L ∧ FrameEnd U o U' L ({ frames := 2, cells := 0, slots := 0, locals := 33 } : Room).cells ({ frames := 2, cells := 0, slots := 0, locals := 33 } : Room).slots) := by
  refine MetFree.of_bodySF (plainFor_of_name pn_java_lang_String) hisR ?_
  intro p e s m args below meth c s₁ Bd hml0 hP hK
  obtain ⟨rfl, hZ, hh⟩ := hP
  have hx := Bd.exec
  have hby := Bd.bytes
  have hml : c.maxLocals = 5 := hml0
  have hown : s.vm.findClass "java/lang/String" = some m.cls := findClass_of_methodNamed Bd.named
  have hnm := (name_of_methodNamed Bd.named Bd.method).1
  have X0 : Stand p l e ({ frames := 2, cells := 0, slots := 0, locals := 33 } : Room) s m #[(.ref a2), (.int (0 : Int32)), (.int (4 : Int32)), (.ref d), (.int (0 : Int32))] below meth c s₁ [] 0 0 := Stand.of_body Bd
  have e0 : s₁.heap = h0 := by rw [← hh, Bd.state]; rfl
  have N0 := Fr.nil n0
  have KP0 : Keep h0 h0 [d] := Keep.refl h0 _
  obtain ⟨G, hG⟩ : ∃ G : State, G = s₁.setTop (entryFrame m #[(.ref a2), (.int (0 : Int32)), (.int (4 : Int32)), (.ref d), (.int (0 : Int32))] 5) := ⟨_, rfl⟩
  have pre0 : ∀ t, Steps p.tables e below (s₁.setTop (mkF m 0 #[.val (.ref a2), .val (.int (0 : Int32)), .val (.int (4 : Int32)), .val (.ref d), .val (.int (0 : Int32))] [])) t → Steps p.tables e below G t := fun t k => hG ▸ castTop (ef_rm22_l m a2 d) k
  have K1 : ∀ t, Steps p.tables e below (s₁.setTop (mkF m 3 #[.val (.ref a2), .val (.int (0 : Int32)), .val (.int (4 : Int32)), .val (.ref d), .val (.int (0 : Int32))] [(.ref a2), (.int (4 : Int32)), (.int (0 : Int32))])) t → Steps p.tables e below G t := by
    intro t k
    refine pre0 t ?_
    refine XS.iloadN X0.here hx rfl (hb hby d22_0) rfl ?_
    refine XS.iloadN X0.here hx rfl (hb hby d22_1) rfl ?_
    refine XS.aloadN X0.here hx rfl (hb hby d22_2) rfl rfl ?_
    exact k
  obtain ⟨cq2, kq2, q2a, q2b, q2c⟩ := isOf hZ e0 E2
  obtain ⟨_, _, ⟨T2, L2, kk2, nn2⟩, -, X2, ⟨Lc2, hQ2, lq2, yq2, zq2⟩, st2⟩ := X0.virtualBack hx (y := (⟨"java/lang/String", "length", "()I"⟩ : MethodName)) (z := (⟨"java/lang/String", "length", "()I"⟩ : MethodName)) hown (mvT hZ (hw _ (List.mem_of_getElem? (i := 109) rfl))) (mvT hZ (hw _ (List.mem_of_getElem? (i := 74) rfl))) (notFace_of_selects (args := #[]) (mvT hZ (hw _ (List.mem_of_getElem? (i := 76) rfl)))) (mvT hZ (hw _ (List.mem_of_getElem? (i := 76) rfl))) (mvT hZ (hw _ (List.mem_of_getElem? (i := 75) rfl))) (by decide) (backOf (W := 2) (rm16_l l Z a0 hw [] a2 a1 k1 [(.int (own_lb ee0)), (.int (own_lb ee1)), (.int (own_lb ee2)), (.int (own_lb ee3))] cs fv h0 n0 Z0 E2 FC FV V1 SC hcs SA SH SL SF hfv O0) hZ (hw _ (List.mem_of_getElem? (i := 77) rfl)) (hw _ (List.mem_of_getElem? (i := 24) rfl)) (by decide) (by decide)) q2a q2c (g := (mkF m 3 #[.val (.ref a2), .val (.int (0 : Int32)), .val (.int (4 : Int32)), .val (.ref d), .val (.int (0 : Int32))] [(.ref a2), (.int (4 : Int32)), (.int (0 : Int32))])) rfl (by rw [hml]; rfl) (Steps.refl _) (argsL := []) (rest := [(.int (4 : Int32)), (.int (0 : Int32))]) (lenOf pd_16 rfl) rfl (by show 2 * 0 + _ ≤ _; exact Nat.le_of_eq rfl) (hb hby d22_3) (fun _ _ => ⟨rfl, e0, (by decide : 0 + 0 ≤ _), (by decide : 0 + 0 ≤ _)⟩)
  dsimp only [Pt.U, Pt.locs, Pt.cells, Pt.slots] at X2 lq2 yq2 zq2 st2 hQ2
  subst lq2 yq2 zq2
  obtain ⟨rfl, Nq2, e2⟩ := hQ2
  have N3 := Fr.app N0 Nq2
  have K4 : ∀ t, Steps p.tables e below (T2.setTop (mkF m 6 #[.val (.ref a2), .val (.int (0 : Int32)), .val (.int (4 : Int32)), .val (.ref d), .val (.int (0 : Int32))] [(.int (4 : Int32)), (.int (4 : Int32)), (.int (0 : Int32))])) t → Steps p.tables e below G t := fun t k => K1 t (st2.trans k)
  obtain ⟨_, _, ⟨T5, L5, kk5, nn5⟩, -, X5, ⟨Lc5, hQ5, lq5, yq5, zq5⟩, st5⟩ := Jvm.LawKit.callS X2 hx (y := (⟨"java/lang/String", "checkBoundsBeginEnd", "(III)V"⟩ : MethodName)) hown (mvT hZ (hw _ (List.mem_of_getElem? (i := 110) rfl))) (mvT hZ (hw _ (List.mem_of_getElem? (i := 111) rfl))) (mvT hZ (hw _ (List.mem_of_getElem? (i := 24) rfl))) (mvT hZ (hw _ (List.mem_of_getElem? (i := 112) rfl))) (by decide) (backOf (W := 0) (rm23_c l Z a0 hw [] cs fv h0 n0 Z0 SC hcs SA SH SL SF hfv O0) hZ (hw _ (List.mem_of_getElem? (i := 112) rfl)) (hw _ (List.mem_of_getElem? (i := 24) rfl)) (by decide) (by decide)) (g := (mkF m 6 #[.val (.ref a2), .val (.int (0 : Int32)), .val (.int (4 : Int32)), .val (.ref d), .val (.int (0 : Int32))] [(.int (4 : Int32)), (.int (4 : Int32)), (.int (0 : Int32))])) rfl (by rw [hml]; rfl) (argsL := [(.int (0 : Int32)), (.int (4 : Int32)), (.int (4 : Int32))]) (rest := []) (lenOf pd_17 rfl) rfl (by show 2 * 0 + _ ≤ _; exact Nat.le_of_eq rfl) (hb hby d22_6) (fun _ _ => ⟨rfl, e2, (by decide : 0 + 0 ≤ _), (by decide : 0 + 0 ≤ _)⟩)
  dsimp only [Pt.U, Pt.locs, Pt.cells, Pt.slots] at X5 lq5 yq5 zq5 st5 hQ5
  subst lq5 yq5 zq5
  obtain ⟨rfl, Nq5, e5⟩ := hQ5
  have N6 := Fr.app N3 Nq5
  have K7 : ∀ t, Steps p.tables e below (T5.setTop (mkF m 9 #[.val (.ref a2), .val (.int (0 : Int32)), .val (.int (4 : Int32)), .val (.ref d), .val (.int (0 : Int32))] [])) t → Steps p.tables e below G t := fun t k => K4 t (st5 _ k)
  have K8 : ∀ t, Steps p.tables e below (T5.setTop (mkF m 15 #[.val (.ref a2), .val (.int (0 : Int32)), .val (.int (4 : Int32)), .val (.ref d), .val (.int (0 : Int32))] [(.ref d), (.int (4 : Int32)), (.int (0 : Int32))])) t → Steps p.tables e below G t := by
    intro t k
    refine K7 t ?_
    refine XS.iload X5.here hx rfl (hb hby d22_9) rfl ?_
    refine XS.iloadN X5.here hx rfl (hb hby d22_11) rfl ?_
    refine XS.iloadN X5.here hx rfl (hb hby d22_12) rfl ?_
    refine XS.isub X5.here hx rfl (hb hby d22_13) rfl ?_
    refine XS.aloadN X5.here hx rfl (hb hby d22_14) rfl rfl ?_
    exact k
  obtain ⟨cl9, Ar9, -, S9, M9, -, -⟩ := id VD
  have K10 : ∀ t, Steps p.tables e below (T5.setTop (mkF m 16 #[.val (.ref a2), .val (.int (0 : Int32)), .val (.int (4 : Int32)), .val (.ref d), .val (.int (0 : Int32))] [(.int z), (.int (4 : Int32)), (.int (0 : Int32))])) t → Steps p.tables e below G t := by
    intro t k
    refine K8 t ?_
    refine X5.arraylength hx (by rw [e5]; exact Ar9.1) (State.isArrayOf_alike hZ.alike Ar9.2.1) (g := (mkF m 15 #[.val (.ref a2), .val (.int (0 : Int32)), .val (.int (4 : Int32)), .val (.ref d), .val (.int (0 : Int32))] [(.ref d), (.int (4 : Int32)), (.int (0 : Int32))])) rfl rfl (hb hby d22_15) _ ?_
    rw [len_of S9 M9]
    exact k
  obtain ⟨_, _, ⟨T11, L11, kk11, nn11⟩, -, X11, ⟨Lc11, hQ11, lq11, yq11, zq11⟩, st11⟩ := Jvm.LawKit.callS X5 hx (y := (⟨"java/lang/String", "checkBoundsOffCount", "(III)I"⟩ : MethodName)) hown (mvT hZ (hw _ (List.mem_of_getElem? (i := 118) rfl))) (mvT hZ (hw _ (List.mem_of_getElem? (i := 119) rfl))) (mvT hZ (hw _ (List.mem_of_getElem? (i := 24) rfl))) (mvT hZ (hw _ (List.mem_of_getElem? (i := 120) rfl))) (by decide) (backOf (W := 0) (rm25_c l Z a0 hw [] z cs fv h0 n0 Z0 SC hcs SA SH SL SF hfv O0 hq4) hZ (hw _ (List.mem_of_getElem? (i := 120) rfl)) (hw _ (List.mem_of_getElem? (i := 24) rfl)) (by decide) (by decide)) (g := (mkF m 16 #[.val (.ref a2), .val (.int (0 : Int32)), .val (.int (4 : Int32)), .val (.ref d), .val (.int (0 : Int32))] [(.int z), (.int (4 : Int32)), (.int (0 : Int32))])) rfl (by rw [hml]; rfl) (argsL := [(.int (0 : Int32)), (.int (4 : Int32)), (.int z)]) (rest := []) (lenOf pd_4 rfl) rfl (by show 2 * 0 + _ ≤ _; exact Nat.le_of_eq rfl) (hb hby d22_16) (fun _ _ => ⟨rfl, e5, (by decide : 0 + 0 ≤ _), (by decide : 0 + 0 ≤ _)⟩)
  dsimp only [Pt.U, Pt.locs, Pt.cells, Pt.slots] at X11 lq11 yq11 zq11 st11 hQ11
  subst lq11 yq11 zq11
  obtain ⟨rfl, Nq11, e11⟩ := hQ11
  have N12 := Fr.app N6 Nq11
  have K13 : ∀ t, Steps p.tables e below (T11.setTop (mkF m 19 #[.val (.ref a2), .val (.int (0 : Int32)), .val (.int (4 : Int32)), .val (.ref d), .val (.int (0 : Int32))] [(.int (0 : Int32))])) t → Steps p.tables e below G t := fun t k => K10 t (st11 _ k)
  have K14 : ∀ t, Steps p.tables e below (T11.setTop (mkF m 21 #[.val (.ref a2), .val (.int (0 : Int32)), .val (.int (4 : Int32)), .val (.ref d), .val (.int (0 : Int32))] [(.ref a2)])) t → Steps p.tables e below G t := by
    intro t k
    refine K13 t ?_
    refine XS.pop X11.here hx rfl (hb hby d22_19) rfl rfl ?_
    refine XS.aloadN X11.here hx rfl (hb hby d22_20) rfl rfl ?_
    exact k
  obtain ⟨cq15, kq15, q15a, q15b, q15c⟩ := isOf hZ e11 E2
  obtain ⟨_, _, ⟨T15, L15, kk15, nn15⟩, -, X15, ⟨Lc15, hQ15, lq15, yq15, zq15⟩, st15⟩ := X11.virtualBack hx (y := (⟨"java/lang/String", "isLatin1", "()Z"⟩ : MethodName)) (z := (⟨"java/lang/String", "isLatin1", "()Z"⟩ : MethodName)) hown (mvT hZ (hw _ (List.mem_of_getElem? (i := 124) rfl))) (mvT hZ (hw _ (List.mem_of_getElem? (i := 125) rfl))) (notFace_of_selects (args := #[]) (mvT hZ (hw _ (List.mem_of_getElem? (i := 127) rfl)))) (mvT hZ (hw _ (List.mem_of_getElem? (i := 127) rfl))) (mvT hZ (hw _ (List.mem_of_getElem? (i := 126) rfl))) (by decide) (backOf (W := 0) (rm27_l l Z a0 hw [] a2 cs fv h0 n0 Z0 FC SC hcs SA SH SL SF hfv O0) hZ (hw _ (List.mem_of_getElem? (i := 128) rfl)) (hw _ (List.mem_of_getElem? (i := 24) rfl)) (by decide) (by decide)) q15a q15c (g := (mkF m 21 #[.val (.ref a2), .val (.int (0 : Int32)), .val (.int (4 : Int32)), .val (.ref d), .val (.int (0 : Int32))] [(.ref a2)])) rfl (by rw [hml]; rfl) (Steps.refl _) (argsL := []) (rest := []) (lenOf pd_18 rfl) rfl (by show 2 * 0 + _ ≤ _; exact Nat.le_of_eq rfl) (hb hby d22_21) (fun _ _ => ⟨rfl, e11, (by decide : 0 + 0 ≤ _), (by decide : 0 + 0 ≤ _)⟩)
  dsimp only [Pt.U, Pt.locs, Pt.cells, Pt.slots] at X15 lq15 yq15 zq15 st15 hQ15
  subst lq15 yq15 zq15
  obtain ⟨rfl, Nq15, e15⟩ := hQ15
  have N16 := Fr.app N12 Nq15
  have K17 : ∀ t, Steps p.tables e below (T15.setTop (mkF m 24 #[.val (.ref a2), .val (.int (0 : Int32)), .val (.int (4 : Int32)), .val (.ref d), .val (.int (0 : Int32))] [(.int (1 : Int32))])) t → Steps p.tables e below G t := fun t k => K14 t (st15.trans k)
  have K18 : ∀ t, Steps p.tables e below (T15.setTop (mkF m 28 #[.val (.ref a2), .val (.int (0 : Int32)), .val (.int (4 : Int32)), .val (.ref d), .val (.int (0 : Int32))] [(.ref a2)])) t → Steps p.tables e below G t := by
    intro t k
    refine K17 t ?_
    refine XS.ifNo X15.here hx rfl (hb hby d22_24) rfl ((if0 _ _).trans (feq (by decide)).1) ?_
    refine XS.aloadN X15.here hx rfl (hb hby d22_27) rfl rfl ?_
    exact k
  obtain ⟨T19, X19, e19, st19⟩ := getF X15 hx hZ hown (host := "") (Or.inl (hw _ (List.mem_of_getElem? (i := 66) rfl))) Via.refl e15 FV (g := (mkF m 28 #[.val (.ref a2), .val (.int (0 : Int32)), .val (.int (4 : Int32)), .val (.ref d), .val (.int (0 : Int32))] [(.ref a2)])) rfl rfl (hb hby d22_28)
  have K20 : ∀ t, Steps p.tables e below (T19.setTop (mkF m 31 #[.val (.ref a2), .val (.int (0 : Int32)), .val (.int (4 : Int32)), .val (.ref d), .val (.int (0 : Int32))] [(.ref a1)])) t → Steps p.tables e below G t := fun t k => K18 t (st19 t k)
  have K21 : ∀ t, Steps p.tables e below (T19.setTop (mkF m 36 #[.val (.ref a2), .val (.int (0 : Int32)), .val (.int (4 : Int32)), .val (.ref d), .val (.int (0 : Int32))] [(.int (0 : Int32)), (.ref d), (.int (4 : Int32)), (.int (0 : Int32)), (.ref a1)])) t → Steps p.tables e below G t := by
    intro t k
    refine K20 t ?_
    refine XS.iloadN X19.here hx rfl (hb hby d22_31) rfl ?_
    refine XS.iloadN X19.here hx rfl (hb hby d22_32) rfl ?_
    refine XS.aloadN X19.here hx rfl (hb hby d22_33) rfl rfl ?_
    refine XS.iload X19.here hx rfl (hb hby d22_34) rfl ?_
    exact k
  obtain ⟨_, _, ⟨T22, L22, kk22, nn22⟩, -, X22, ⟨Lc22, hQ22, lq22, yq22, zq22⟩, st22⟩ := Jvm.LawKit.callS X19 hx (y := (⟨"java/lang/StringLatin1", "getChars", "([BII[CI)V"⟩ : MethodName)) hown (mvT hZ (hw _ (List.mem_of_getElem? (i := 176) rfl))) (mvT hZ (hw _ (List.mem_of_getElem? (i := 177) rfl))) (mvT hZ (hw _ (List.mem_of_getElem? (i := 178) rfl))) (mvT hZ (hw _ (List.mem_of_getElem? (i := 179) rfl))) (by decide) (backOf (W := 0) (rm40 l Z a0 hw [] a1 k1 (own_lb ee0) (own_lb ee1) (own_lb ee2) (own_lb ee3) d kd z vs h0 n0 Z0 V1 VD ned gd hq4) hZ (hw _ (List.mem_of_getElem? (i := 179) rfl)) (hw _ (List.mem_of_getElem? (i := 178) rfl)) (by decide) (by decide)) (g := (mkF m 36 #[.val (.ref a2), .val (.int (0 : Int32)), .val (.int (4 : Int32)), .val (.ref d), .val (.int (0 : Int32))] [(.int (0 : Int32)), (.ref d), (.int (4 : Int32)), (.int (0 : Int32)), (.ref a1)])) rfl (by rw [hml]; rfl) (argsL := [(.ref a1), (.int (0 : Int32)), (.int (4 : Int32)), (.ref d), (.int (0 : Int32))]) (rest := []) (lenOf pd_19 rfl) rfl (by show 2 * 0 + _ ≤ _; exact Nat.le_of_eq rfl) (hb hby d22_36) (fun _ _ => ⟨rfl, e19, (by decide : 0 + 0 ≤ _), (by decide : 0 + 0 ≤ _)⟩)
  dsimp only [Pt.U, Pt.locs, Pt.cells, Pt.slots] at X22 lq22 yq22 zq22 st22 hQ22
  subst lq22 yq22 zq22
  obtain ⟨vs22, rfl, Nq22, K22, V22, ct22⟩ := hQ22
  have N23 := Fr.app N16 Nq22
  have f24 := E2.keep K22
  have f25 := FV.keep K22 (ninS ned2 nin0)
  have f26 := FC.keep K22 (ninS ned2 nin0)
  have f27 := V1.keep K22 (ninS ned nin0)
  have f28 := O0.keep K22 (allS gd all0)
  have Z29 : n0 ≤ T22.heap.size := Nat.le_trans Z0 K22.1
  have KP30 : Keep h0 T22.heap [d] := KP0.trans K22 (allS (Or.inl (List.mem_of_getElem? (i := 0) rfl)) all0)
  have K31 : ∀ t, Steps p.tables e below (T22.setTop (mkF m 39 #[.val (.ref a2), .val (.int (0 : Int32)), .val (.int (4 : Int32)), .val (.ref d), .val (.int (0 : Int32))] [])) t → Steps p.tables e below G t := fun t k => K21 t (st22 _ k)
  obtain ⟨fs, hr, hrun, hended, hW, hsame⟩ := X22.leave (v := none) (fun _ => rfl)
  have KF := K31
  rw [hG] at KF
  refine ⟨_, _, KF _ ?_, hrun, hended, _, _, rfl, ?_, ⟨_, rfl⟩, hW, hsame.mono (by decide) (by decide)⟩
  · refine XS.goto X22.here hx rfl (pc0 := 39) (pc' := 54) rfl (hb hby d22_39) (by decide) (by decide) ?_
    show Steps p.tables e below (T22.setTop (mkF m 54 #[.val (.ref a2), .val (.int (0 : Int32)), .val (.int (4 : Int32)), .val (.ref d), .val (.int (0 : Int32))] [])) _
    exact X22.returnOut hx Bd.returns (hb hby d22_54) hr
  · show Q22_l Z d kd z ee0 ee1 ee2 ee3 h0 n0 _ T22.heap _
    obtain ⟨y0, y1, y2, y3⟩ := ct22
    exact ⟨_, rfl, N23, KP30, V22, y0.trans (congrArg Value.int (own_lc hr0 hle.1)), y1.trans (congrArg Value.int (own_lc hr1 hle.2.1)), y2.trans (congrArg Value.int (own_lc hr2 hle.2.2.1)), y3.trans (congrArg Value.int (own_lc hr3 hle.2.2.2))⟩
def Q22_u (Z : State) (d : Addr) (kd : ClassId) (z : Int32) (ee0 ee1 ee2 ee3 : Int32) (h0 : Heap) (n0 : Nat) (v : Option Value) (h : Heap) (L : List Loc) : Prop := ∃ vs' : List Value, v = none ∧ Fr n0 L ∧ Keep h0 h [d] ∧ Arv Z h d kd .char z vs' (Value.int (0 : Int32)) ∧ vs'.getD 0 (Value.int (0 : Int32)) = .int ee0 ∧ vs'.getD 1 (Value.int (0 : Int32)) = .int ee1 ∧ vs'.getD 2 (Value.int (0 : Int32)) = .int ee2 ∧ vs'.getD 3 (Value.int (0 : Int32)) = .int ee3
theorem ef_rm22_u (m : MethodId) (x0 : Addr) (x3 : Addr) : entryFrame m #[(.ref x0), (.int (0 : Int32)), (.int (4 : Int32)), (.ref x3), (.int (0 : Int32))] 5 = mkF m 0 #[.val (.ref x0), .val (.int (0 : Int32)), .val (.int (4 : Int32)), .val (.ref x3), .val (.int (0 : Int32))] [] := by first | (simp [entryFrame, mkF, argsToLocals, Value.category]; done) | rfl
set_option maxRecDepth 65536 in
set_option maxHeartbeats 40000000 in
theorem rm22_u (l : Launch) (Z : State) (a0 : Array Value) (hw : ∀ d ∈ tables_1, d.before a0 Z = true) (ws : List Jvm.Cond) (a2 a1 : Addr) (k1 : ClassId) (ee0 ee1 ee2 ee3 : Int32) (d : Addr) (kd : ClassId) (z : Int32) (vs : List Value) (cs : Int32) (fv : Value) (h0 : Heap) (n0 : Nat) (Z0 : n0 ≤ h0.size) (E2 : Exa Z h0 a2 "java/lang/String") (FV : Fld Z h0 a2 "java/lang/String" "value" "[B" (.ref a1)) (FC : Fld Z h0 a2 "java/lang/String" "coder" "B" (.int (1 : Int32))) (V1 : Arv Z h0 a1 k1 .byte (8 : Int32) [(.int (own_b0 ee0)), (.int (own_b1 ee0)), (.int (own_b0 ee1)), (.int (own_b1 ee1)), (.int (own_b0 ee2)), (.int (own_b1 ee2)), (.int (own_b0 ee3)), (.int (own_b1 ee3))] (Value.int (0 : Int32))) (VD : Arv Z h0 d kd .char z vs (Value.int (0 : Int32))) (ned : a1 ≠ d) (gd : n0 ≤ d) (hq4 : ¬ z < 4) (ned2 : a2 ≠ d) (hr0 : 0 ≤ ee0.toInt ∧ ee0.toInt < 65536) (hr1 : 0 ≤ ee1.toInt ∧ ee1.toInt < 65536) (hr2 : 0 ≤ ee2.toInt ∧ ee2.toInt < 65536) (hr3 : 0 ≤ ee3.toInt ∧ ee3.toInt < 65536) (SC : Sta Z Z.heap "java/lang/String" "COMPACT_STRINGS" "Z" (.int cs)) (hcs : ¬ cs = 0) (SA : Sta Z Z.heap "java/lang/StringUTF16" "$assertionsDisabled" "Z" (.int (1 : Int32))) (SH : Sta Z Z.heap "java/lang/StringUTF16" "HI_BYTE_SHIFT" "I" (.int (0 : Int32))) (SL : Sta Z Z.heap "java/lang/StringUTF16" "LO_BYTE_SHIFT" "I" (.int (8 : Int32))) (SF : Sta Z Z.heap "jdk/internal/util/Preconditions" "SIOOBE_FORMATTER" "Ljava/util/function/BiFunction;" fv) (hfv : fv = .null ∨ ∃ a, fv = .ref a) (O0 : Old Z n0 h0) :
    MetFree l (⟨"java/lang/String", "getChars", "(II[CI)V"⟩ : MethodName) (head1 (Jvm.Cond.code (⟨"java/lang/String", "getChars", "(II[CI)V"⟩ : MethodName) jdk_42_method_61_code 5 none :: ws) ({ frames := 4, cells := 0, slots := 0, locals := 60 } : Room)) (fun a U => a = #[(.ref a2), (.int (0 : Int32)), (.int (4 : Int32)), (.ref d), (.int (0 : Int32))] ∧ Z.Warmed39 U.vm ∧ U.heap = h0) (fun _ _ _ _ _ => True) (fun _ U o U' => ∃ v L, o = .returned v ∧ Q22_u Z d kd z ee0 ee1 ee2 ee3 h0 n0 v U'.heap L ∧ FrameEnd U o U' L ({ frames := 4, cells := 0, slots := 0, locals := 60 } : Room).cells ({ frames := 4, cells := 0, slots := 0, locals := 60 } : Room).slots) := by
  refine MetFree.of_bodySF (plainFor_of_name pn_java_lang_String) hisR ?_
  intro p e s m args below meth c s₁ Bd hml0 hP hK
  obtain ⟨rfl, hZ, hh⟩ := hP
  have hx := Bd.exec
  have hby := Bd.bytes
  have hml : c.maxLocals = 5 := hml0
  have hown : s.vm.findClass "java/lang/String" = some m.cls := findClass_of_methodNamed Bd.named
  have hnm := (name_of_methodNamed Bd.named Bd.method).1
  have X0 : Stand p l e ({ frames := 4, cells := 0, slots := 0, locals := 60 } : Room) s m #[(.ref a2), (.int (0 : Int32)), (.int (4 : Int32)), (.ref d), (.int (0 : Int32))] below meth c s₁ [] 0 0 := Stand.of_body Bd
  have e0 : s₁.heap = h0 := by rw [← hh, Bd.state]; rfl
  have N0 := Fr.nil n0
  have KP0 : Keep h0 h0 [d] := Keep.refl h0 _
  obtain ⟨G, hG⟩ : ∃ G : State, G = s₁.setTop (entryFrame m #[(.ref a2), (.int (0 : Int32)), (.int (4 : Int32)), (.ref d), (.int (0 : Int32))] 5) := ⟨_, rfl⟩
  have pre0 : ∀ t, Steps p.tables e below (s₁.setTop (mkF m 0 #[.val (.ref a2), .val (.int (0 : Int32)), .val (.int (4 : Int32)), .val (.ref d), .val (.int (0 : Int32))] [])) t → Steps p.tables e below G t := fun t k => hG ▸ castTop (ef_rm22_u m a2 d) k
  have K1 : ∀ t, Steps p.tables e below (s₁.setTop (mkF m 3 #[.val (.ref a2), .val (.int (0 : Int32)), .val (.int (4 : Int32)), .val (.ref d), .val (.int (0 : Int32))] [(.ref a2), (.int (4 : Int32)), (.int (0 : Int32))])) t → Steps p.tables e below G t := by
    intro t k
    refine pre0 t ?_
    refine XS.iloadN X0.here hx rfl (hb hby d22_0) rfl ?_
    refine XS.iloadN X0.here hx rfl (hb hby d22_1) rfl ?_
    refine XS.aloadN X0.here hx rfl (hb hby d22_2) rfl rfl ?_
    exact k
  obtain ⟨cq2, kq2, q2a, q2b, q2c⟩ := isOf hZ e0 E2
  obtain ⟨_, _, ⟨T2, L2, kk2, nn2⟩, -, X2, ⟨Lc2, hQ2, lq2, yq2, zq2⟩, st2⟩ := X0.virtualBack hx (y := (⟨"java/lang/String", "length", "()I"⟩ : MethodName)) (z := (⟨"java/lang/String", "length", "()I"⟩ : MethodName)) hown (mvT hZ (hw _ (List.mem_of_getElem? (i := 109) rfl))) (mvT hZ (hw _ (List.mem_of_getElem? (i := 74) rfl))) (notFace_of_selects (args := #[]) (mvT hZ (hw _ (List.mem_of_getElem? (i := 76) rfl)))) (mvT hZ (hw _ (List.mem_of_getElem? (i := 76) rfl))) (mvT hZ (hw _ (List.mem_of_getElem? (i := 75) rfl))) (by decide) (backOf (W := 2) (rm16_u l Z a0 hw [] a2 a1 k1 [(.int (own_b0 ee0)), (.int (own_b1 ee0)), (.int (own_b0 ee1)), (.int (own_b1 ee1)), (.int (own_b0 ee2)), (.int (own_b1 ee2)), (.int (own_b0 ee3)), (.int (own_b1 ee3))] cs fv h0 n0 Z0 E2 FC FV V1 SC hcs SA SH SL SF hfv O0) hZ (hw _ (List.mem_of_getElem? (i := 77) rfl)) (hw _ (List.mem_of_getElem? (i := 24) rfl)) (by decide) (by decide)) q2a q2c (g := (mkF m 3 #[.val (.ref a2), .val (.int (0 : Int32)), .val (.int (4 : Int32)), .val (.ref d), .val (.int (0 : Int32))] [(.ref a2), (.int (4 : Int32)), (.int (0 : Int32))])) rfl (by rw [hml]; rfl) (Steps.refl _) (argsL := []) (rest := [(.int (4 : Int32)), (.int (0 : Int32))]) (lenOf pd_16 rfl) rfl (by show 2 * 0 + _ ≤ _; exact Nat.le_of_eq rfl) (hb hby d22_3) (fun _ _ => ⟨rfl, e0, (by decide : 0 + 0 ≤ _), (by decide : 0 + 0 ≤ _)⟩)
  dsimp only [Pt.U, Pt.locs, Pt.cells, Pt.slots] at X2 lq2 yq2 zq2 st2 hQ2
  subst lq2 yq2 zq2
  obtain ⟨rfl, Nq2, e2⟩ := hQ2
  have N3 := Fr.app N0 Nq2
  have K4 : ∀ t, Steps p.tables e below (T2.setTop (mkF m 6 #[.val (.ref a2), .val (.int (0 : Int32)), .val (.int (4 : Int32)), .val (.ref d), .val (.int (0 : Int32))] [(.int (4 : Int32)), (.int (4 : Int32)), (.int (0 : Int32))])) t → Steps p.tables e below G t := fun t k => K1 t (st2.trans k)
  obtain ⟨_, _, ⟨T5, L5, kk5, nn5⟩, -, X5, ⟨Lc5, hQ5, lq5, yq5, zq5⟩, st5⟩ := Jvm.LawKit.callS X2 hx (y := (⟨"java/lang/String", "checkBoundsBeginEnd", "(III)V"⟩ : MethodName)) hown (mvT hZ (hw _ (List.mem_of_getElem? (i := 110) rfl))) (mvT hZ (hw _ (List.mem_of_getElem? (i := 111) rfl))) (mvT hZ (hw _ (List.mem_of_getElem? (i := 24) rfl))) (mvT hZ (hw _ (List.mem_of_getElem? (i := 112) rfl))) (by decide) (backOf (W := 0) (rm23_c l Z a0 hw [] cs fv h0 n0 Z0 SC hcs SA SH SL SF hfv O0) hZ (hw _ (List.mem_of_getElem? (i := 112) rfl)) (hw _ (List.mem_of_getElem? (i := 24) rfl)) (by decide) (by decide)) (g := (mkF m 6 #[.val (.ref a2), .val (.int (0 : Int32)), .val (.int (4 : Int32)), .val (.ref d), .val (.int (0 : Int32))] [(.int (4 : Int32)), (.int (4 : Int32)), (.int (0 : Int32))])) rfl (by rw [hml]; rfl) (argsL := [(.int (0 : Int32)), (.int (4 : Int32)), (.int (4 : Int32))]) (rest := []) (lenOf pd_17 rfl) rfl (by show 2 * 0 + _ ≤ _; exact Nat.le_of_eq rfl) (hb hby d22_6) (fun _ _ => ⟨rfl, e2, (by decide : 0 + 0 ≤ _), (by decide : 0 + 0 ≤ _)⟩)
  dsimp only [Pt.U, Pt.locs, Pt.cells, Pt.slots] at X5 lq5 yq5 zq5 st5 hQ5
  subst lq5 yq5 zq5
  obtain ⟨rfl, Nq5, e5⟩ := hQ5
  have N6 := Fr.app N3 Nq5
  have K7 : ∀ t, Steps p.tables e below (T5.setTop (mkF m 9 #[.val (.ref a2), .val (.int (0 : Int32)), .val (.int (4 : Int32)), .val (.ref d), .val (.int (0 : Int32))] [])) t → Steps p.tables e below G t := fun t k => K4 t (st5 _ k)
  have K8 : ∀ t, Steps p.tables e below (T5.setTop (mkF m 15 #[.val (.ref a2), .val (.int (0 : Int32)), .val (.int (4 : Int32)), .val (.ref d), .val (.int (0 : Int32))] [(.ref d), (.int (4 : Int32)), (.int (0 : Int32))])) t → Steps p.tables e below G t := by
    intro t k
    refine K7 t ?_
    refine XS.iload X5.here hx rfl (hb hby d22_9) rfl ?_
    refine XS.iloadN X5.here hx rfl (hb hby d22_11) rfl ?_
    refine XS.iloadN X5.here hx rfl (hb hby d22_12) rfl ?_
    refine XS.isub X5.here hx rfl (hb hby d22_13) rfl ?_
    refine XS.aloadN X5.here hx rfl (hb hby d22_14) rfl rfl ?_
    exact k
  obtain ⟨cl9, Ar9, -, S9, M9, -, -⟩ := id VD
  have K10 : ∀ t, Steps p.tables e below (T5.setTop (mkF m 16 #[.val (.ref a2), .val (.int (0 : Int32)), .val (.int (4 : Int32)), .val (.ref d), .val (.int (0 : Int32))] [(.int z), (.int (4 : Int32)), (.int (0 : Int32))])) t → Steps p.tables e below G t := by
    intro t k
    refine K8 t ?_
    refine X5.arraylength hx (by rw [e5]; exact Ar9.1) (State.isArrayOf_alike hZ.alike Ar9.2.1) (g := (mkF m 15 #[.val (.ref a2), .val (.int (0 : Int32)), .val (.int (4 : Int32)), .val (.ref d), .val (.int (0 : Int32))] [(.ref d), (.int (4 : Int32)), (.int (0 : Int32))])) rfl rfl (hb hby d22_15) _ ?_
    rw [len_of S9 M9]
    exact k
  obtain ⟨_, _, ⟨T11, L11, kk11, nn11⟩, -, X11, ⟨Lc11, hQ11, lq11, yq11, zq11⟩, st11⟩ := Jvm.LawKit.callS X5 hx (y := (⟨"java/lang/String", "checkBoundsOffCount", "(III)I"⟩ : MethodName)) hown (mvT hZ (hw _ (List.mem_of_getElem? (i := 118) rfl))) (mvT hZ (hw _ (List.mem_of_getElem? (i := 119) rfl))) (mvT hZ (hw _ (List.mem_of_getElem? (i := 24) rfl))) (mvT hZ (hw _ (List.mem_of_getElem? (i := 120) rfl))) (by decide) (backOf (W := 0) (rm25_c l Z a0 hw [] z cs fv h0 n0 Z0 SC hcs SA SH SL SF hfv O0 hq4) hZ (hw _ (List.mem_of_getElem? (i := 120) rfl)) (hw _ (List.mem_of_getElem? (i := 24) rfl)) (by decide) (by decide)) (g := (mkF m 16 #[.val (.ref a2), .val (.int (0 : Int32)), .val (.int (4 : Int32)), .val (.ref d), .val (.int (0 : Int32))] [(.int z), (.int (4 : Int32)), (.int (0 : Int32))])) rfl (by rw [hml]; rfl) (argsL := [(.int (0 : Int32)), (.int (4 : Int32)), (.int z)]) (rest := []) (lenOf pd_4 rfl) rfl (by show 2 * 0 + _ ≤ _; exact Nat.le_of_eq rfl) (hb hby d22_16) (fun _ _ => ⟨rfl, e5, (by decide : 0 + 0 ≤ _), (by decide : 0 + 0 ≤ _)⟩)
  dsimp only [Pt.U, Pt.locs, Pt.cells, Pt.slots] at X11 lq11 yq11 zq11 st11 hQ11
  subst lq11 yq11 zq11
  obtain ⟨rfl, Nq11, e11⟩ := hQ11
  have N12 := Fr.app N6 Nq11
  have K13 : ∀ t, Steps p.tables e below (T11.setTop (mkF m 19 #[.val (.ref a2), .val (.int (0 : Int32)), .val (.int (4 : Int32)), .val (.ref d), .val (.int (0 : Int32))] [(.int (0 : Int32))])) t → Steps p.tables e below G t := fun t k => K10 t (st11 _ k)
  have K14 : ∀ t, Steps p.tables e below (T11.setTop (mkF m 21 #[.val (.ref a2), .val (.int (0 : Int32)), .val (.int (4 : Int32)), .val (.ref d), .val (.int (0 : Int32))] [(.ref a2)])) t → Steps p.tables e below G t := by
    intro t k
    refine K13 t ?_
    refine XS.pop X11.here hx rfl (hb hby d22_19) rfl rfl ?_
    refine XS.aloadN X11.here hx rfl (hb hby d22_20) rfl rfl ?_
    exact k
  obtain ⟨cq15, kq15, q15a, q15b, q15c⟩ := isOf hZ e11 E2
  obtain ⟨_, _, ⟨T15, L15, kk15, nn15⟩, -, X15, ⟨Lc15, hQ15, lq15, yq15, zq15⟩, st15⟩ := X11.virtualBack hx (y := (⟨"java/lang/String", "isLatin1", "()Z"⟩ : MethodName)) (z := (⟨"java/lang/String", "isLatin1", "()Z"⟩ : MethodName)) hown (mvT hZ (hw _ (List.mem_of_getElem? (i := 124) rfl))) (mvT hZ (hw _ (List.mem_of_getElem? (i := 125) rfl))) (notFace_of_selects (args := #[]) (mvT hZ (hw _ (List.mem_of_getElem? (i := 127) rfl)))) (mvT hZ (hw _ (List.mem_of_getElem? (i := 127) rfl))) (mvT hZ (hw _ (List.mem_of_getElem? (i := 126) rfl))) (by decide) (backOf (W := 0) (rm27_u l Z a0 hw [] a2 cs fv h0 n0 Z0 FC SC hcs SA SH SL SF hfv O0) hZ (hw _ (List.mem_of_getElem? (i := 128) rfl)) (hw _ (List.mem_of_getElem? (i := 24) rfl)) (by decide) (by decide)) q15a q15c (g := (mkF m 21 #[.val (.ref a2), .val (.int (0 : Int32)), .val (.int (4 : Int32)), .val (.ref d), .val (.int (0 : Int32))] [(.ref a2)])) rfl (by rw [hml]; rfl) (Steps.refl _) (argsL := []) (rest := []) (lenOf pd_18 rfl) rfl (by show 2 * 0 + _ ≤ _; exact Nat.le_of_eq rfl) (hb hby d22_21) (fun _ _ => ⟨rfl, e11, (by decide : 0 + 0 ≤ _), (by decide : 0 + 0 ≤ _)⟩)
  dsimp only [Pt.U, Pt.locs, Pt.cells, Pt.slots] at X15 lq15 yq15 zq15 st15 hQ15
  subst lq15 yq15 zq15
  obtain ⟨rfl, Nq15, e15⟩ := hQ15
  have N16 := Fr.app N12 Nq15
  have K17 : ∀ t, Steps p.tables e below (T15.setTop (mkF m 24 #[.val (.ref a2), .val (.int (0 : Int32)), .val (.int (4 : Int32)), .val (.ref d), .val (.int (0 : Int32))] [(.int (0 : Int32))])) t → Steps p.tables e below G t := fun t k => K14 t (st15.trans k)
  have K18 : ∀ t, Steps p.tables e below (T15.setTop (mkF m 43 #[.val (.ref a2), .val (.int (0 : Int32)), .val (.int (4 : Int32)), .val (.ref d), .val (.int (0 : Int32))] [(.ref a2)])) t → Steps p.tables e below G t := by
    intro t k
    refine K17 t ?_
    refine XS.ifYes X15.here hx rfl (pc0 := 24) (pc' := 42) rfl (hb hby d22_24) rfl ((if0 _ _).trans (teq (by decide)).1) (by decide) (by decide) ?_
    refine XS.aloadN X15.here hx rfl (hb hby d22_42) rfl rfl ?_
    exact k
  obtain ⟨T19, X19, e19, st19⟩ := getF X15 hx hZ hown (host := "") (Or.inl (hw _ (List.mem_of_getElem? (i := 66) rfl))) Via.refl e15 FV (g := (mkF m 43 #[.val (.ref a2), .val (.int (0 : Int32)), .val (.int (4 : Int32)), .val (.ref d), .val (.int (0 : Int32))] [(.ref a2)])) rfl rfl (hb hby d22_43)
  have K20 : ∀ t, Steps p.tables e below (T19.setTop (mkF m 46 #[.val (.ref a2), .val (.int (0 : Int32)), .val (.int (4 : Int32)), .val (.ref d), .val (.int (0 : Int32))] [(.ref a1)])) t → Steps p.tables e below G t := fun t k => K18 t (st19 t k)
  have K21 : ∀ t, Steps p.tables e below (T19.setTop (mkF m 51 #[.val (.ref a2), .val (.int (0 : Int32)), .val (.int (4 : Int32)), .val (.ref d), .val (.int (0 : Int32))] [(.int (0 : Int32)), (.ref d), (.int (4 : Int32)), (.int (0 : Int32)), (.ref a1)])) t → Steps p.tables e below G t := by
    intro t k
    refine K20 t ?_
    refine XS.iloadN X19.here hx rfl (hb hby d22_46) rfl ?_
    refine XS.iloadN X19.here hx rfl (hb hby d22_47) rfl ?_
    refine XS.aloadN X19.here hx rfl (hb hby d22_48) rfl rfl ?_
    refine XS.iload X19.here hx rfl (hb hby d22_49) rfl ?_
    exact k
  obtain ⟨_, _, ⟨T22, L22, kk22, nn22⟩, -, X22, ⟨Lc22, hQ22, lq22, yq22, zq22⟩, st22⟩ := Jvm.LawKit.callS X19 hx (y := (⟨"java/lang/StringUTF16", "getChars", "([BII[CI)V"⟩ : MethodName)) hown (mvT hZ (hw _ (List.mem_of_getElem? (i := 129) rfl))) (mvT hZ (hw _ (List.mem_of_getElem? (i := 130) rfl))) (mvT hZ (hw _ (List.mem_of_getElem? (i := 36) rfl))) (mvT hZ (hw _ (List.mem_of_getElem? (i := 131) rfl))) (by decide) (backOf (W := 0) (rm28 l Z a0 hw [] a1 k1 (own_b0 ee0) (own_b1 ee0) (own_b0 ee1) (own_b1 ee1) (own_b0 ee2) (own_b1 ee2) (own_b0 ee3) (own_b1 ee3) d kd z vs cs fv h0 n0 Z0 V1 VD ned gd hq4 SC hcs SA SH SL SF hfv O0) hZ (hw _ (List.mem_of_getElem? (i := 131) rfl)) (hw _ (List.mem_of_getElem? (i := 36) rfl)) (by decide) (by decide)) (g := (mkF m 51 #[.val (.ref a2), .val (.int (0 : Int32)), .val (.int (4 : Int32)), .val (.ref d), .val (.int (0 : Int32))] [(.int (0 : Int32)), (.ref d), (.int (4 : Int32)), (.int (0 : Int32)), (.ref a1)])) rfl (by rw [hml]; rfl) (argsL := [(.ref a1), (.int (0 : Int32)), (.int (4 : Int32)), (.ref d), (.int (0 : Int32))]) (rest := []) (lenOf pd_19 rfl) rfl (by show 2 * 0 + _ ≤ _; exact Nat.le_of_eq rfl) (hb hby d22_51) (fun _ _ => ⟨rfl, e19, (by decide : 0 + 0 ≤ _), (by decide : 0 + 0 ≤ _)⟩)
  dsimp only [Pt.U, Pt.locs, Pt.cells, Pt.slots] at X22 lq22 yq22 zq22 st22 hQ22
  subst lq22 yq22 zq22
  obtain ⟨vs22, rfl, Nq22, K22, V22, ct22⟩ := hQ22
  have N23 := Fr.app N16 Nq22
  have f24 := E2.keep K22
  have f25 := FV.keep K22 (ninS ned2 nin0)
  have f26 := FC.keep K22 (ninS ned2 nin0)
  have f27 := V1.keep K22 (ninS ned nin0)
  have f28 := O0.keep K22 (allS gd all0)
  have Z29 : n0 ≤ T22.heap.size := Nat.le_trans Z0 K22.1
  have KP30 : Keep h0 T22.heap [d] := KP0.trans K22 (allS (Or.inl (List.mem_of_getElem? (i := 0) rfl)) all0)
  have K31 : ∀ t, Steps p.tables e below (T22.setTop (mkF m 54 #[.val (.ref a2), .val (.int (0 : Int32)), .val (.int (4 : Int32)), .val (.ref d), .val (.int (0 : Int32))] [])) t → Steps p.tables e below G t := fun t k => K21 t (st22 _ k)
  obtain ⟨fs, hr, hrun, hended, hW, hsame⟩ := X22.leave (v := none) (fun _ => rfl)
  have KF := K31
  rw [hG] at KF
  refine ⟨_, _, KF _ ?_, hrun, hended, _, _, rfl, ?_, ⟨_, rfl⟩, hW, hsame.mono (by decide) (by decide)⟩
  · show Steps p.tables e below (T22.setTop (mkF m 54 #[.val (.ref a2), .val (.int (0 : Int32)), .val (.int (4 : Int32)), .val (.ref d), .val (.int (0 : Int32))] [])) _
    exact X22.returnOut hx Bd.returns (hb hby d22_54) hr
  · show Q22_u Z d kd z ee0 ee1 ee2 ee3 h0 n0 _ T22.heap _
    obtain ⟨y0, y1, y2, y3⟩ := ct22
    exact ⟨_, rfl, N23, KP30, V22, y0.trans (congrArg Value.int (own_gc hr0)), y1.trans (congrArg Value.int (own_gc hr1)), y2.trans (congrArg Value.int (own_gc hr2)), y3.trans (congrArg Value.int (own_gc hr3))⟩
def Q15 (Z : State) (a1 b1 : Addr) (ee0 ee1 ee2 ee3 : Int32) (h0 : Heap) (n0 : Nat) (v : Option Value) (h : Heap) (L : List Loc) : Prop := ∃ (b : Addr) (k : ClassId) (z' : Int32) (vs' : List Value), v = some (.ref a1) ∧ Fr n0 L ∧ Keep h0 h [a1, b1] ∧ (b = b1 ∨ h0.size ≤ b) ∧ Exa Z h a1 "org/arborlog/pattern/LineText" ∧ Fld Z h a1 "org/arborlog/pattern/LineText" "chars" "[C" (.ref b) ∧ Fld Z h a1 "org/arborlog/pattern/LineText" "length" "I" (.int (4 : Int32)) ∧ Arv Z h b k .char z' vs' (Value.int (0 : Int32)) ∧ (¬ z' < 4 ∧ z'.toInt ≤ 10) ∧ vs'.getD 0 (Value.int (0 : Int32)) = .int ee0 ∧ vs'.getD 1 (Value.int (0 : Int32)) = .int ee1 ∧ vs'.getD 2 (Value.int (0 : Int32)) = .int ee2 ∧ vs'.getD 3 (Value.int (0 : Int32)) = .int ee3
theorem d15_0 : decode prog_20_method_6_code 0 = .ok (.aload_n 1, 1) := by decide +kernel
theorem d15_1 : decode prog_20_method_6_code 1 = .ok (.ifnull 7, 3) := by decide +kernel
theorem d15_4 : decode prog_20_method_6_code 4 = .ok (.aload_n 1, 1) := by decide +kernel
theorem d15_5 : decode prog_20_method_6_code 5 = .ok (.goto 5, 3) := by decide +kernel
theorem d15_8 : decode prog_20_method_6_code 8 = .ok (.ldc 17, 2) := by decide +kernel
theorem d15_10 : decode prog_20_method_6_code 10 = .ok (.astore_n 2, 1) := by decide +kernel
theorem d15_11 : decode prog_20_method_6_code 11 = .ok (.aload_n 2, 1) := by decide +kernel
theorem d15_12 : decode prog_20_method_6_code 12 = .ok (.invokevirtual 19, 3) := by decide +kernel
theorem d15_15 : decode prog_20_method_6_code 15 = .ok (.istore_n 3, 1) := by decide +kernel
theorem d15_16 : decode prog_20_method_6_code 16 = .ok (.aload_n 0, 1) := by decide +kernel
theorem d15_17 : decode prog_20_method_6_code 17 = .ok (.aload_n 0, 1) := by decide +kernel
theorem d15_18 : decode prog_20_method_6_code 18 = .ok (.getfield 13, 3) := by decide +kernel
theorem d15_21 : decode prog_20_method_6_code 21 = .ok (.iload_n 3, 1) := by decide +kernel
theorem d15_22 : decode prog_20_method_6_code 22 = .ok (.iadd, 1) := by decide +kernel
theorem d15_23 : decode prog_20_method_6_code 23 = .ok (.invokevirtual 24, 3) := by decide +kernel
theorem d15_26 : decode prog_20_method_6_code 26 = .ok (.aload_n 2, 1) := by decide +kernel
theorem d15_27 : decode prog_20_method_6_code 27 = .ok (.iconst 0, 1) := by decide +kernel
theorem d15_28 : decode prog_20_method_6_code 28 = .ok (.iload_n 3, 1) := by decide +kernel
theorem d15_29 : decode prog_20_method_6_code 29 = .ok (.aload_n 0, 1) := by decide +kernel
theorem d15_30 : decode prog_20_method_6_code 30 = .ok (.getfield 7, 3) := by decide +kernel
theorem d15_33 : decode prog_20_method_6_code 33 = .ok (.aload_n 0, 1) := by decide +kernel
theorem d15_34 : decode prog_20_method_6_code 34 = .ok (.getfield 13, 3) := by decide +kernel
theorem d15_37 : decode prog_20_method_6_code 37 = .ok (.invokevirtual 28, 3) := by decide +kernel
theorem d15_40 : decode prog_20_method_6_code 40 = .ok (.aload_n 0, 1) := by decide +kernel
theorem d15_41 : decode prog_20_method_6_code 41 = .ok (.dup, 1) := by decide +kernel
theorem d15_42 : decode prog_20_method_6_code 42 = .ok (.getfield 13, 3) := by decide +kernel
theorem d15_45 : decode prog_20_method_6_code 45 = .ok (.iload_n 3, 1) := by decide +kernel
theorem d15_46 : decode prog_20_method_6_code 46 = .ok (.iadd, 1) := by decide +kernel
theorem d15_47 : decode prog_20_method_6_code 47 = .ok (.putfield 13, 3) := by decide +kernel
theorem d15_50 : decode prog_20_method_6_code 50 = .ok (.aload_n 0, 1) := by decide +kernel
theorem d15_51 : decode prog_20_method_6_code 51 = .ok (.areturn, 1) := by decide +kernel
theorem pd_20 : parseMethodDescriptor "(I)V" = some ⟨[.int], none⟩ := by decide +kernel
theorem pd_21 : parseMethodDescriptor "(II[CI)V" = some ⟨[.int, .int, (.array .char), .int], none⟩ := by decide +kernel
theorem ef_rm15 (m : MethodId) (x0 : Addr) (x1 : Addr) : entryFrame m #[(.ref x0), (.ref x1)] 4 = mkF m 0 #[.val (.ref x0), .val (.ref x1), .unset, .unset] [] := by first | (simp [entryFrame, mkF, argsToLocals, Value.category]; done) | rfl
set_option maxRecDepth 65536 in
set_option maxHeartbeats 40000000 in
theorem rm15 (l : Launch) (Z : State) (a0 : Array Value) (hw : ∀ d ∈ tables_1, d.before a0 Z = true) (ws : List Jvm.Cond) (a1 a2 b1 : Addr) (kb : ClassId) (z : Int32) (vs : List Value) (b2 : Addr) (k2 : ClassId) (z2 co : Int32) (vs2 : List Value) (ee0 ee1 ee2 ee3 : Int32) (cs : Int32) (fv : Value) (h0 : Heap) (n0 : Nat) (Z0 : n0 ≤ h0.size) (E1 : Exa Z h0 a1 "org/arborlog/pattern/LineText") (F1 : Fld Z h0 a1 "org/arborlog/pattern/LineText" "chars" "[C" (.ref b1)) (F2 : Fld Z h0 a1 "org/arborlog/pattern/LineText" "length" "I" (.int (0 : Int32))) (VB : Arv Z h0 b1 kb .char z vs (Value.int (0 : Int32))) (E2 : Exa Z h0 a2 "java/lang/String") (FV : Fld Z h0 a2 "java/lang/String" "value" "[B" (.ref b2)) (FC : Fld Z h0 a2 "java/lang/String" "coder" "B" (.int co)) (V2 : Arv Z h0 b2 k2 .byte z2 vs2 (Value.int (0 : Int32))) (hsp : own_sp z2 co vs2 ee0 ee1 ee2 ee3) (n1 : a1 ≠ b1) (n2 : a1 ≠ a2) (n3 : a1 ≠ b2) (n4 : a2 ≠ b1) (n5 : b2 ≠ b1) (g1 : n0 ≤ a1) (gb1 : n0 ≤ b1) (hz0 : ¬ z < 0) (hz8 : z.toInt ≤ 10) (hr0 : 0 ≤ ee0.toInt ∧ ee0.toInt < 65536) (hr1 : 0 ≤ ee1.toInt ∧ ee1.toInt < 65536) (hr2 : 0 ≤ ee2.toInt ∧ ee2.toInt < 65536) (hr3 : 0 ≤ ee3.toInt ∧ ee3.toInt < 65536) (SC : Sta Z Z.heap "java/lang/String" "COMPACT_STRINGS" "Z" (.int cs)) (hcs : ¬ cs = 0) (SA : Sta Z Z.heap "java/lang/StringUTF16" "$assertionsDisabled" "Z" (.int (1 : Int32))) (SH : Sta Z Z.heap "java/lang/StringUTF16" "HI_BYTE_SHIFT" "I" (.int (0 : Int32))) (SL : Sta Z Z.heap "java/lang/StringUTF16" "LO_BYTE_SHIFT" "I" (.int (8 : Int32))) (SF : Sta Z Z.heap "jdk/internal/util/Preconditions" "SIOOBE_FORMATTER" "Ljava/util/function/BiFunction;" fv) (hfv : fv = .null ∨ ∃ a, fv = .ref a) (O0 : Old Z n0 h0) :
    MetFree l (⟨"org/arborlog/pattern/LineText", "append", "(Ljava/lang/String;)Lorg/arborlog/pattern/LineText;"⟩ : MethodName) (head1 (Jvm.Cond.code (⟨"org/arborlog/pattern/LineText", "append", "(Ljava/lang/String;)Lorg/arborlog/pattern/LineText;"⟩ : MethodName) prog_20_method_6_code 4 (some (.object "org/arborlog/pattern/LineText")) :: ws) ({ frames := 5, cells := 1, slots := 10, locals := 76 } : Room)) (fun a U => a = #[(.ref a1), (.ref a2)] ∧ Z.Warmed39 U.vm ∧ U.heap = h0) (fun _ _ _ _ _ => True) (fun _ U o U' => ∃ v L, o = .returned v ∧ Q15 Z a1 b1 ee0 ee1 ee2 ee3 h0 n0 v U'.heap L ∧ FrameEnd U o U' L ({ frames := 5, cells := 1, slots := 10, locals := 76 } : Room).cells ({ frames := 5, cells := 1, slots := 10, locals := 76 } : Room).slots) := by
  refine MetFree.of_bodySF (plainFor_of_name pn_org_arborlog_pattern_LineText) hisR ?_
  intro p e s m args below meth c s₁ Bd hml0 hP hK
  obtain ⟨rfl, hZ, hh⟩ := hP
  have hx := Bd.exec
  have hby := Bd.bytes
  have hml : c.maxLocals = 4 := hml0
  have hown : s.vm.findClass "org/arborlog/pattern/LineText" = some m.cls := findClass_of_methodNamed Bd.named
  have hnm := (name_of_methodNamed Bd.named Bd.method).1
  have X0 : Stand p l e ({ frames := 5, cells := 1, slots := 10, locals := 76 } : Room) s m #[(.ref a1), (.ref a2)] below meth c s₁ [] 0 0 := Stand.of_body Bd
  have e0 : s₁.heap = h0 := by rw [← hh, Bd.state]; rfl
  have N0 := Fr.nil n0
  have KP0 : Keep h0 h0 [a1, b1] := Keep.refl h0 _
  obtain ⟨G, hG⟩ : ∃ G : State, G = s₁.setTop (entryFrame m #[(.ref a1), (.ref a2)] 4) := ⟨_, rfl⟩
  have pre0 : ∀ t, Steps p.tables e below (s₁.setTop (mkF m 0 #[.val (.ref a1), .val (.ref a2), .unset, .unset] [])) t → Steps p.tables e below G t := fun t k => hG ▸ castTop (ef_rm15 m a1 a2) k
  rcases hsp with ⟨rfl, rfl, rfl, hle⟩ | ⟨rfl, rfl, rfl⟩
  · have K1 : ∀ t, Steps p.tables e below (s₁.setTop (mkF m 12 #[.val (.ref a1), .val (.ref a2), .val (.ref a2), .unset] [(.ref a2)])) t → Steps p.tables e below G t := by
      intro t k
      refine pre0 t ?_
      refine XS.aloadN X0.here hx rfl (hb hby d15_0) rfl rfl ?_
      refine XS.ifnullNo X0.here hx rfl (hb hby d15_1) rfl ?_
      refine XS.aloadN X0.here hx rfl (hb hby d15_4) rfl rfl ?_
      refine XS.goto X0.here hx rfl (pc0 := 5) (pc' := 10) rfl (hb hby d15_5) (by decide) (by decide) ?_
      refine XS.astoreN X0.here hx rfl (hb hby d15_10) rfl rfl (l' := #[.val (.ref a1), .val (.ref a2), .val (.ref a2), .unset]) rfl ?_
      refine XS.aloadN X0.here hx rfl (hb hby d15_11) rfl rfl ?_
      exact k
    obtain ⟨cq2, kq2, q2a, q2b, q2c⟩ := isOf hZ e0 E2
    obtain ⟨_, _, ⟨T2, L2, kk2, nn2⟩, -, X2, ⟨Lc2, hQ2, lq2, yq2, zq2⟩, st2⟩ := X0.virtualBack hx (y := (⟨"java/lang/String", "length", "()I"⟩ : MethodName)) (z := (⟨"java/lang/String", "length", "()I"⟩ : MethodName)) hown (mvT hZ (hw _ (List.mem_of_getElem? (i := 73) rfl))) (mvT hZ (hw _ (List.mem_of_getElem? (i := 74) rfl))) (notFace_of_selects (args := #[]) (mvT hZ (hw _ (List.mem_of_getElem? (i := 76) rfl)))) (mvT hZ (hw _ (List.mem_of_getElem? (i := 76) rfl))) (mvT hZ (hw _ (List.mem_of_getElem? (i := 75) rfl))) (by decide) (backOf (W := 0) (rm16_l l Z a0 hw [] a2 b2 k2 [(.int (own_lb ee0)), (.int (own_lb ee1)), (.int (own_lb ee2)), (.int (own_lb ee3))] cs fv h0 n0 Z0 E2 FC FV V2 SC hcs SA SH SL SF hfv O0) hZ (hw _ (List.mem_of_getElem? (i := 77) rfl)) (hw _ (List.mem_of_getElem? (i := 24) rfl)) (by decide) (by decide)) q2a q2c (g := (mkF m 12 #[.val (.ref a1), .val (.ref a2), .val (.ref a2), .unset] [(.ref a2)])) rfl (by rw [hml]; rfl) (Steps.refl _) (argsL := []) (rest := []) (lenOf pd_16 rfl) rfl (by show 2 * 0 + _ ≤ _; exact Nat.le_of_eq rfl) (hb hby d15_12) (fun _ _ => ⟨rfl, e0, (by decide : 0 + 0 ≤ _), (by decide : 0 + 0 ≤ _)⟩)
    dsimp only [Pt.U, Pt.locs, Pt.cells, Pt.slots] at X2 lq2 yq2 zq2 st2 hQ2
    subst lq2 yq2 zq2
    obtain ⟨rfl, Nq2, e2⟩ := hQ2
    have N3 := Fr.app N0 Nq2
    have K4 : ∀ t, Steps p.tables e below (T2.setTop (mkF m 15 #[.val (.ref a1), .val (.ref a2), .val (.ref a2), .unset] [(.int (4 : Int32))])) t → Steps p.tables e below G t := fun t k => K1 t (st2.trans k)
    have K5 : ∀ t, Steps p.tables e below (T2.setTop (mkF m 18 #[.val (.ref a1), .val (.ref a2), .val (.ref a2), .val (.int (4 : Int32))] [(.ref a1), (.ref a1)])) t → Steps p.tables e below G t := by
      intro t k
      refine K4 t ?_
      refine XS.istoreN X2.here hx rfl (hb hby d15_15) rfl (l' := #[.val (.ref a1), .val (.ref a2), .val (.ref a2), .val (.int (4 : Int32))]) rfl ?_
      refine XS.aloadN X2.here hx rfl (hb hby d15_16) rfl rfl ?_
      refine XS.aloadN X2.here hx rfl (hb hby d15_17) rfl rfl ?_
      exact k
    obtain ⟨T6, X6, e6, st6⟩ := getF X2 hx hZ hown (host := "") (Or.inl (hw _ (List.mem_of_getElem? (i := 83) rfl))) Via.refl e2 F2 (g := (mkF m 18 #[.val (.ref a1), .val (.ref a2), .val (.ref a2), .val (.int (4 : Int32))] [(.ref a1), (.ref a1)])) rfl rfl (hb hby d15_18)
    have K7 : ∀ t, Steps p.tables e below (T6.setTop (mkF m 21 #[.val (.ref a1), .val (.ref a2), .val (.ref a2), .val (.int (4 : Int32))] [(.int (0 : Int32)), (.ref a1)])) t → Steps p.tables e below G t := fun t k => K5 t (st6 t k)
    have K8 : ∀ t, Steps p.tables e below (T6.setTop (mkF m 23 #[.val (.ref a1), .val (.ref a2), .val (.ref a2), .val (.int (4 : Int32))] [(.int (4 : Int32)), (.ref a1)])) t → Steps p.tables e below G t := by
      intro t k
      refine K7 t ?_
      refine XS.iloadN X6.here hx rfl (hb hby d15_21) rfl ?_
      refine XS.iadd X6.here hx rfl (hb hby d15_22) rfl ?_
      exact k
    obtain ⟨cq9, q9, q9'⟩ := E1.cell
    obtain ⟨_, _, ⟨T9, L9, kk9, nn9⟩, -, X9, ⟨Lc9, hQ9, lq9, yq9, zq9⟩, st9⟩ := X6.privateBack hx (y := (⟨"org/arborlog/pattern/LineText", "ensureCapacity", "(I)V"⟩ : MethodName)) hown (mvT hZ (hw _ (List.mem_of_getElem? (i := 85) rfl))) (mvT hZ (hw _ (List.mem_of_getElem? (i := 86) rfl))) (own_selp hZ (hw _ (List.mem_of_getElem? (i := 12) rfl)) (hw _ (List.mem_of_getElem? (i := 87) rfl)) (hw _ (List.mem_of_getElem? (i := 86) rfl)) (by decide)) (Cond.privateMethod_at (mvP hZ (hw _ (List.mem_of_getElem? (i := 87) rfl)) (args := #[]))) (mvT hZ (hw _ (List.mem_of_getElem? (i := 88) rfl))) (by decide) (backOf (W := 0) (rm18 l Z a0 hw [] a1 (4 : Int32) b1 kb z (0 : Int32) vs h0 n0 Z0 E1 F1 F2 VB n1 g1 ⟨by decide, by decide⟩ hz0 hz8) hZ (hw _ (List.mem_of_getElem? (i := 88) rfl)) (hw _ (List.mem_of_getElem? (i := 13) rfl)) (by decide) (by decide)) (g := (mkF m 23 #[.val (.ref a1), .val (.ref a2), .val (.ref a2), .val (.int (4 : Int32))] [(.int (4 : Int32)), (.ref a1)])) rfl (by rw [hml]; rfl) (Steps.refl _) (a := a1) (by rw [e6]; exact q9) q9' (argsL := [(.int (4 : Int32))]) (rest := []) (lenOf pd_20 rfl) rfl (by show 2 * 0 + _ ≤ _; exact Nat.le_of_eq rfl) (hb hby d15_23) (fun _ _ => ⟨rfl, e6, (by decide : 0 + 1 ≤ _), (by decide : 0 + 10 ≤ _)⟩)
    dsimp only [Pt.U, Pt.locs, Pt.cells, Pt.slots] at X9 lq9 yq9 zq9 st9 hQ9
    subst lq9 yq9 zq9
    obtain ⟨b9, kb9, zb9, vs9, rfl, Nq9, K9, ob9, E9', Fc9, Fl9, Vb9, hz9, hc9⟩ := hQ9
    have N10 := Fr.app N3 Nq9
    have gb9 : n0 ≤ b9 := ob9.elim (fun q => q ▸ gb1) (fun q => Nat.le_trans Z0 q)
    have ne_a1_b9 : a1 ≠ b9 := ob9.elim (fun q => q ▸ n1) (fun q => Nat.ne_of_lt (Nat.lt_of_lt_of_le E1.lt q))
    have ne_a2_b9 : a2 ≠ b9 := ob9.elim (fun q => q ▸ n4) (fun q => Nat.ne_of_lt (Nat.lt_of_lt_of_le E2.lt q))
    have ne_b2_b9 : b2 ≠ b9 := ob9.elim (fun q => q ▸ n5) (fun q => Nat.ne_of_lt (Nat.lt_of_lt_of_le V2.lt q))
    have f11 := E1.keep K9
    have f12 := E2.keep K9
    have f13 := FV.keep K9 (ninS (Ne.symm n2) nin0)
    have f14 := FC.keep K9 (ninS (Ne.symm n2) nin0)
    have f15 := V2.keep K9 (ninS (Ne.symm n3) nin0)
    have f16 := O0.keep K9 (allS g1 all0)
    have Z17 : n0 ≤ T9.heap.size := Nat.le_trans Z0 K9.1
    have KP18 : Keep h0 T9.heap [a1, b1] := KP0.trans K9 (allS (Or.inl (List.mem_of_getElem? (i := 0) rfl)) all0)
    have K19 : ∀ t, Steps p.tables e below (T9.setTop (mkF m 26 #[.val (.ref a1), .val (.ref a2), .val (.ref a2), .val (.int (4 : Int32))] [])) t → Steps p.tables e below G t := fun t k => K8 t (st9.trans k)
    have K20 : ∀ t, Steps p.tables e below (T9.setTop (mkF m 30 #[.val (.ref a1), .val (.ref a2), .val (.ref a2), .val (.int (4 : Int32))] [(.ref a1), (.int (4 : Int32)), (.int (0 : Int32)), (.ref a2)])) t → Steps p.tables e below G t := by
      intro t k
      refine K19 t ?_
      refine XS.aloadN X9.here hx rfl (hb hby d15_26) rfl rfl ?_
      refine XS.iconst X9.here hx rfl (hb hby d15_27) ?_
      refine XS.iloadN X9.here hx rfl (hb hby d15_28) rfl ?_
      refine XS.aloadN X9.here hx rfl (hb hby d15_29) rfl rfl ?_
      exact k
    obtain ⟨T21, X21, e21, st21⟩ := getF X9 hx hZ hown (host := "") (Or.inl (hw _ (List.mem_of_getElem? (i := 20) rfl))) Via.refl rfl Fc9 (g := (mkF m 30 #[.val (.ref a1), .val (.ref a2), .val (.ref a2), .val (.int (4 : Int32))] [(.ref a1), (.int (4 : Int32)), (.int (0 : Int32)), (.ref a2)])) rfl rfl (hb hby d15_30)
    have K22 : ∀ t, Steps p.tables e below (T21.setTop (mkF m 33 #[.val (.ref a1), .val (.ref a2), .val (.ref a2), .val (.int (4 : Int32))] [(.ref b9), (.int (4 : Int32)), (.int (0 : Int32)), (.ref a2)])) t → Steps p.tables e below G t := fun t k => K20 t (st21 t k)
    have K23 : ∀ t, Steps p.tables e below (T21.setTop (mkF m 34 #[.val (.ref a1), .val (.ref a2), .val (.ref a2), .val (.int (4 : Int32))] [(.ref a1), (.ref b9), (.int (4 : Int32)), (.int (0 : Int32)), (.ref a2)])) t → Steps p.tables e below G t := by
      intro t k
      refine K22 t ?_
      refine XS.aloadN X21.here hx rfl (hb hby d15_33) rfl rfl ?_
      exact k
    obtain ⟨T24, X24, e24, st24⟩ := getF X21 hx hZ hown (host := "") (Or.inl (hw _ (List.mem_of_getElem? (i := 83) rfl))) Via.refl e21 Fl9 (g := (mkF m 34 #[.val (.ref a1), .val (.ref a2), .val (.ref a2), .val (.int (4 : Int32))] [(.ref a1), (.ref b9), (.int (4 : Int32)), (.int (0 : Int32)), (.ref a2)])) rfl rfl (hb hby d15_34)
    have K25 : ∀ t, Steps p.tables e below (T24.setTop (mkF m 37 #[.val (.ref a1), .val (.ref a2), .val (.ref a2), .val (.int (4 : Int32))] [(.int (0 : Int32)), (.ref b9), (.int (4 : Int32)), (.int (0 : Int32)), (.ref a2)])) t → Steps p.tables e below G t := fun t k => K23 t (st24 t k)
    obtain ⟨cq26, kq26, q26a, q26b, q26c⟩ := isOf hZ e24 f12
    obtain ⟨_, _, ⟨T26, L26, kk26, nn26⟩, -, X26, ⟨Lc26, hQ26, lq26, yq26, zq26⟩, st26⟩ := X24.virtualBack hx (y := (⟨"java/lang/String", "getChars", "(II[CI)V"⟩ : MethodName)) (z := (⟨"java/lang/String", "getChars", "(II[CI)V"⟩ : MethodName)) hown (mvT hZ (hw _ (List.mem_of_getElem? (i := 104) rfl))) (mvT hZ (hw _ (List.mem_of_getElem? (i := 105) rfl))) (notFace_of_selects (args := #[]) (mvT hZ (hw _ (List.mem_of_getElem? (i := 107) rfl)))) (mvT hZ (hw _ (List.mem_of_getElem? (i := 107) rfl))) (mvT hZ (hw _ (List.mem_of_getElem? (i := 106) rfl))) (by decide) (backOf (W := 0) (rm22_l l Z a0 hw [] a2 b2 k2 ee0 ee1 ee2 ee3 b9 kb9 zb9 vs9 cs fv T9.heap n0 Z17 f12 f13 f14 f15 Vb9 ne_b2_b9 gb9 hz9.1 ne_a2_b9 hr0 hr1 hr2 hr3 hle SC hcs SA SH SL SF hfv f16) hZ (hw _ (List.mem_of_getElem? (i := 108) rfl)) (hw _ (List.mem_of_getElem? (i := 24) rfl)) (by decide) (by decide)) q26a q26c (g := (mkF m 37 #[.val (.ref a1), .val (.ref a2), .val (.ref a2), .val (.int (4 : Int32))] [(.int (0 : Int32)), (.ref b9), (.int (4 : Int32)), (.int (0 : Int32)), (.ref a2)])) rfl (by rw [hml]; rfl) (Steps.refl _) (argsL := [(.int (0 : Int32)), (.int (4 : Int32)), (.ref b9), (.int (0 : Int32))]) (rest := []) (lenOf pd_21 rfl) rfl (by show 2 * 0 + _ ≤ _; exact Nat.le_of_eq rfl) (hb hby d15_37) (fun _ _ => ⟨rfl, e24, (by decide : 1 + 0 ≤ _), (by decide : 10 + 0 ≤ _)⟩)
    dsimp only [Pt.U, Pt.locs, Pt.cells, Pt.slots] at X26 lq26 yq26 zq26 st26 hQ26
    subst lq26 yq26 zq26
    obtain ⟨vs26, rfl, Nq26, K26, V26, ct26⟩ := hQ26
    have N27 := Fr.app N10 Nq26
    have f28 := E9'.keep K26
    have f29 := f12.keep K26
    have f30 := f13.keep K26 (ninS ne_a2_b9 nin0)
    have f31 := f14.keep K26 (ninS ne_a2_b9 nin0)
    have f32 := f15.keep K26 (ninS ne_b2_b9 nin0)
    have f33 := f16.keep K26 (allS gb9 all0)
    have f34 := Fc9.keep K26 (ninS ne_a1_b9 nin0)
    have f35 := Fl9.keep K26 (ninS ne_a1_b9 nin0)
    have Z36 : n0 ≤ T26.heap.size := Nat.le_trans Z17 K26.1
    have KP37 : Keep h0 T26.heap [a1, b1] := KP18.trans K26 (allS (ob9.elim (fun q => Or.inl (q ▸ List.mem_of_getElem? (i := 1) rfl)) Or.inr) all0)
    have K38 : ∀ t, Steps p.tables e below (T26.setTop (mkF m 40 #[.val (.ref a1), .val (.ref a2), .val (.ref a2), .val (.int (4 : Int32))] [])) t → Steps p.tables e below G t := fun t k => K25 t (st26.trans k)
    have K39 : ∀ t, Steps p.tables e below (T26.setTop (mkF m 42 #[.val (.ref a1), .val (.ref a2), .val (.ref a2), .val (.int (4 : Int32))] [(.ref a1), (.ref a1)])) t → Steps p.tables e below G t := by
      intro t k
      refine K38 t ?_
      refine XS.aloadN X26.here hx rfl (hb hby d15_40) rfl rfl ?_
      refine XS.dup X26.here hx rfl (hb hby d15_41) rfl rfl ?_
      exact k
    obtain ⟨T40, X40, e40, st40⟩ := getF X26 hx hZ hown (host := "") (Or.inl (hw _ (List.mem_of_getElem? (i := 83) rfl))) Via.refl rfl f35 (g := (mkF m 42 #[.val (.ref a1), .val (.ref a2), .val (.ref a2), .val (.int (4 : Int32))] [(.ref a1), (.ref a1)])) rfl rfl (hb hby d15_42)
    have K41 : ∀ t, Steps p.tables e below (T40.setTop (mkF m 45 #[.val (.ref a1), .val (.ref a2), .val (.ref a2), .val (.int (4 : Int32))] [(.int (0 : Int32)), (.ref a1)])) t → Steps p.tables e below G t := fun t k => K39 t (st40 t k)
    have K42 : ∀ t, Steps p.tables e below (T40.setTop (mkF m 47 #[.val (.ref a1), .val (.ref a2), .val (.ref a2), .val (.int (4 : Int32))] [(.int (4 : Int32)), (.ref a1)])) t → Steps p.tables e below G t := by
      intro t k
      refine K41 t ?_
      refine XS.iloadN X40.here hx rfl (hb hby d15_45) rfl ?_
      refine XS.iadd X40.here hx rfl (hb hby d15_46) rfl ?_
      exact k
    obtain ⟨T43, h43, X43, e43, W43, st43⟩ := putF X40 hx hZ hown (host := "") (Or.inl (hw _ (List.mem_of_getElem? (i := 83) rfl))) Via.refl e40 f35 f28 (Or.inl (hw _ (List.mem_of_getElem? (i := 84) rfl))) (hw _ (List.mem_of_getElem? (i := 12) rfl)) (ty := .int) (by decide) rfl rfl (g := (mkF m 47 #[.val (.ref a1), .val (.ref a2), .val (.ref a2), .val (.int (4 : Int32))] [(.int (4 : Int32)), (.ref a1)])) rfl rfl (hb hby d15_47)
    have K44 : ∀ t, Steps p.tables e below (T43.setTop (mkF m 50 #[.val (.ref a1), .val (.ref a2), .val (.ref a2), .val (.int (4 : Int32))] [])) t → Steps p.tables e below G t := fun t k => K42 t (st43 t k)
    have f45 := f28.wr W43
    have f46 := f29.wr W43
    have f47 := f30.other W43 (Or.inl (Ne.symm n2))
    have f48 := f31.other W43 (Or.inl (Ne.symm n2))
    have f49 := f32.other W43 (Ne.symm n3)
    have f50 := f33.wr W43 g1
    have f51 := f34.other W43 (Or.inr (slot_ne (Or.inl (hw _ (List.mem_of_getElem? (i := 21) rfl))) (Or.inl (hw _ (List.mem_of_getElem? (i := 84) rfl))) (by decide) (t := (.array .char)) (t' := .int) (by decide) (by decide)))
    have f52 := f35.same W43
    have f53 := V26.other W43 (Ne.symm ne_a1_b9)
    have Z54 : n0 ≤ h43.size := Nat.le_trans Z36 (Keep.of_wr W43).1
    have KP55 : Keep h0 h43 [a1, b1] := KP37.wr W43 (Or.inl (List.mem_of_getElem? (i := 0) rfl))
    have N56 := Fr.snoc X43 N27 g1
    obtain ⟨fs, hr, hrun, hended, hW, hsame⟩ := X43.leave (v := some (.ref a1)) (fun h => by rw [Bd.returns] at h; cases h)
    have KF := K44
    rw [hG] at KF
    refine ⟨_, _, KF _ ?_, hrun, hended, _, _, rfl, ?_, ⟨_, rfl⟩, hW, hsame.mono (by decide) (by decide)⟩
    · refine XS.aloadN X43.here hx rfl (hb hby d15_50) rfl rfl ?_
      show Steps p.tables e below (T43.setTop (mkF m 51 #[.val (.ref a1), .val (.ref a2), .val (.ref a2), .val (.int (4 : Int32))] [(.ref a1)])) _
      exact own_retA X43 hx Bd.returns rfl rfl rfl (hb hby d15_51) hr
    · show Q15 Z a1 b1 ee0 ee1 ee2 ee3 h0 n0 _ T43.heap _
      rw [e43]
      exact ⟨_, _, _, _, rfl, N56, KP55, ob9, f45, f51, f52, f53, hz9, ct26⟩
  · have K57 : ∀ t, Steps p.tables e below (s₁.setTop (mkF m 12 #[.val (.ref a1), .val (.ref a2), .val (.ref a2), .unset] [(.ref a2)])) t → Steps p.tables e below G t := by
      intro t k
      refine pre0 t ?_
      refine XS.aloadN X0.here hx rfl (hb hby d15_0) rfl rfl ?_
      refine XS.ifnullNo X0.here hx rfl (hb hby d15_1) rfl ?_
      refine XS.aloadN X0.here hx rfl (hb hby d15_4) rfl rfl ?_
      refine XS.goto X0.here hx rfl (pc0 := 5) (pc' := 10) rfl (hb hby d15_5) (by decide) (by decide) ?_
      refine XS.astoreN X0.here hx rfl (hb hby d15_10) rfl rfl (l' := #[.val (.ref a1), .val (.ref a2), .val (.ref a2), .unset]) rfl ?_
      refine XS.aloadN X0.here hx rfl (hb hby d15_11) rfl rfl ?_
      exact k
    obtain ⟨cq58, kq58, q58a, q58b, q58c⟩ := isOf hZ e0 E2
    obtain ⟨_, _, ⟨T58, L58, kk58, nn58⟩, -, X58, ⟨Lc58, hQ58, lq58, yq58, zq58⟩, st58⟩ := X0.virtualBack hx (y := (⟨"java/lang/String", "length", "()I"⟩ : MethodName)) (z := (⟨"java/lang/String", "length", "()I"⟩ : MethodName)) hown (mvT hZ (hw _ (List.mem_of_getElem? (i := 73) rfl))) (mvT hZ (hw _ (List.mem_of_getElem? (i := 74) rfl))) (notFace_of_selects (args := #[]) (mvT hZ (hw _ (List.mem_of_getElem? (i := 76) rfl)))) (mvT hZ (hw _ (List.mem_of_getElem? (i := 76) rfl))) (mvT hZ (hw _ (List.mem_of_getElem? (i := 75) rfl))) (by decide) (backOf (W := 0) (rm16_u l Z a0 hw [] a2 b2 k2 [(.int (own_b0 ee0)), (.int (own_b1 ee0)), (.int (own_b0 ee1)), (.int (own_b1 ee1)), (.int (own_b0 ee2)), (.int (own_b1 ee2)), (.int (own_b0 ee3)), (.int (own_b1 ee3))] cs fv h0 n0 Z0 E2 FC FV V2 SC hcs SA SH SL SF hfv O0) hZ (hw _ (List.mem_of_getElem? (i := 77) rfl)) (hw _ (List.mem_of_getElem? (i := 24) rfl)) (by decide) (by decide)) q58a q58c (g := (mkF m 12 #[.val (.ref a1), .val (.ref a2), .val (.ref a2), .unset] [(.ref a2)])) rfl (by rw [hml]; rfl) (Steps.refl _) (argsL := []) (rest := []) (lenOf pd_16 rfl) rfl (by show 2 * 0 + _ ≤ _; exact Nat.le_of_eq rfl) (hb hby d15_12) (fun _ _ => ⟨rfl, e0, (by decide : 0 + 0 ≤ _), (by decide : 0 + 0 ≤ _)⟩)
    dsimp only [Pt.U, Pt.locs, Pt.cells, Pt.slots] at X58 lq58 yq58 zq58 st58 hQ58
    subst lq58 yq58 zq58
    obtain ⟨rfl, Nq58, e58⟩ := hQ58
    have N59 := Fr.app N0 Nq58
    have K60 : ∀ t, Steps p.tables e below (T58.setTop (mkF m 15 #[.val (.ref a1), .val (.ref a2), .val (.ref a2), .unset] [(.int (4 : Int32))])) t → Steps p.tables e below G t := fun t k => K57 t (st58.trans k)
    have K61 : ∀ t, Steps p.tables e below (T58.setTop (mkF m 18 #[.val (.ref a1), .val (.ref a2), .val (.ref a2), .val (.int (4 : Int32))] [(.ref a1), (.ref a1)])) t → Steps p.tables e below G t := by
      intro t k
      refine K60 t ?_
      refine XS.istoreN X58.here hx rfl (hb hby d15_15) rfl (l' := #[.val (.ref a1), .val (.ref a2), .val (.ref a2), .val (.int (4 : Int32))]) rfl ?_
      refine XS.aloadN X58.here hx rfl (hb hby d15_16) rfl rfl ?_
      refine XS.aloadN X58.here hx rfl (hb hby d15_17) rfl rfl ?_
      exact k
    obtain ⟨T62, X62, e62, st62⟩ := getF X58 hx hZ hown (host := "") (Or.inl (hw _ (List.mem_of_getElem? (i := 83) rfl))) Via.refl e58 F2 (g := (mkF m 18 #[.val (.ref a1), .val (.ref a2), .val (.ref a2), .val (.int (4 : Int32))] [(.ref a1), (.ref a1)])) rfl rfl (hb hby d15_18)
    have K63 : ∀ t, Steps p.tables e below (T62.setTop (mkF m 21 #[.val (.ref a1), .val (.ref a2), .val (.ref a2), .val (.int (4 : Int32))] [(.int (0 : Int32)), (.ref a1)])) t → Steps p.tables e below G t := fun t k => K61 t (st62 t k)
    have K64 : ∀ t, Steps p.tables e below (T62.setTop (mkF m 23 #[.val (.ref a1), .val (.ref a2), .val (.ref a2), .val (.int (4 : Int32))] [(.int (4 : Int32)), (.ref a1)])) t → Steps p.tables e below G t := by
      intro t k
      refine K63 t ?_
      refine XS.iloadN X62.here hx rfl (hb hby d15_21) rfl ?_
      refine XS.iadd X62.here hx rfl (hb hby d15_22) rfl ?_
      exact k
    obtain ⟨cq65, q65, q65'⟩ := E1.cell
    obtain ⟨_, _, ⟨T65, L65, kk65, nn65⟩, -, X65, ⟨Lc65, hQ65, lq65, yq65, zq65⟩, st65⟩ := X62.privateBack hx (y := (⟨"org/arborlog/pattern/LineText", "ensureCapacity", "(I)V"⟩ : MethodName)) hown (mvT hZ (hw _ (List.mem_of_getElem? (i := 85) rfl))) (mvT hZ (hw _ (List.mem_of_getElem? (i := 86) rfl))) (own_selp hZ (hw _ (List.mem_of_getElem? (i := 12) rfl)) (hw _ (List.mem_of_getElem? (i := 87) rfl)) (hw _ (List.mem_of_getElem? (i := 86) rfl)) (by decide)) (Cond.privateMethod_at (mvP hZ (hw _ (List.mem_of_getElem? (i := 87) rfl)) (args := #[]))) (mvT hZ (hw _ (List.mem_of_getElem? (i := 88) rfl))) (by decide) (backOf (W := 0) (rm18 l Z a0 hw [] a1 (4 : Int32) b1 kb z (0 : Int32) vs h0 n0 Z0 E1 F1 F2 VB n1 g1 ⟨by decide, by decide⟩ hz0 hz8) hZ (hw _ (List.mem_of_getElem? (i := 88) rfl)) (hw _ (List.mem_of_getElem? (i := 13) rfl)) (by decide) (by decide)) (g := (mkF m 23 #[.val (.ref a1), .val (.ref a2), .val (.ref a2), .val (.int (4 : Int32))] [(.int (4 : Int32)), (.ref a1)])) rfl (by rw [hml]; rfl) (Steps.refl _) (a := a1) (by rw [e62]; exact q65) q65' (argsL := [(.int (4 : Int32))]) (rest := []) (lenOf pd_20 rfl) rfl (by show 2 * 0 + _ ≤ _; exact Nat.le_of_eq rfl) (hb hby d15_23) (fun _ _ => ⟨rfl, e62, (by decide : 0 + 1 ≤ _), (by decide : 0 + 10 ≤ _)⟩)
    dsimp only [Pt.U, Pt.locs, Pt.cells, Pt.slots] at X65 lq65 yq65 zq65 st65 hQ65
    subst lq65 yq65 zq65
    obtain ⟨b65, kb65, zb65, vs65, rfl, Nq65, K65, ob65, E65', Fc65, Fl65, Vb65, hz65, hc65⟩ := hQ65
    have N66 := Fr.app N59 Nq65
    have gb65 : n0 ≤ b65 := ob65.elim (fun q => q ▸ gb1) (fun q => Nat.le_trans Z0 q)
    have ne_a1_b65 : a1 ≠ b65 := ob65.elim (fun q => q ▸ n1) (fun q => Nat.ne_of_lt (Nat.lt_of_lt_of_le E1.lt q))
    have ne_a2_b65 : a2 ≠ b65 := ob65.elim (fun q => q ▸ n4) (fun q => Nat.ne_of_lt (Nat.lt_of_lt_of_le E2.lt q))
    have ne_b2_b65 : b2 ≠ b65 := ob65.elim (fun q => q ▸ n5) (fun q => Nat.ne_of_lt (Nat.lt_of_lt_of_le V2.lt q))
    have f67 := E1.keep K65
    have f68 := E2.keep K65
    have f69 := FV.keep K65 (ninS (Ne.symm n2) nin0)
    have f70 := FC.keep K65 (ninS (Ne.symm n2) nin0)
    have f71 := V2.keep K65 (ninS (Ne.symm n3) nin0)
    have f72 := O0.keep K65 (allS g1 all0)
    have Z73 : n0 ≤ T65.heap.size := Nat.le_trans Z0 K65.1
    have KP74 : Keep h0 T65.heap [a1, b1] := KP0.trans K65 (allS (Or.inl (List.mem_of_getElem? (i := 0) rfl)) all0)
    have K75 : ∀ t, Steps p.tables e below (T65.setTop (mkF m 26 #[.val (.ref a1), .val (.ref a2), .val (.ref a2), .val (.int (4 : Int32))] [])) t → Steps p.tables e below G t := fun t k => K64 t (st65.trans k)
    have K76 : ∀ t, Steps p.tables e below (T65.setTop (mkF m 30 #[.val (.ref a1), .val (.ref a2), .val (.ref a2), .val (.int (4 : Int32))] [(.ref a1), (.int (4 : Int32)), (.int (0 : Int32)), (.ref a2)])) t → Steps p.tables e below G t := by
      intro t k
      refine K75 t ?_
      refine XS.aloadN X65.here hx rfl (hb hby d15_26) rfl rfl ?_
      refine XS.iconst X65.here hx rfl (hb hby d15_27) ?_
      refine XS.iloadN X65.here hx rfl (hb hby d15_28) rfl ?_
      refine XS.aloadN X65.here hx rfl (hb hby d15_29) rfl rfl ?_
      exact k
    obtain ⟨T77, X77, e77, st77⟩ := getF X65 hx hZ hown (host := "") (Or.inl (hw _ (List.mem_of_getElem? (i := 20) rfl))) Via.refl rfl Fc65 (g := (mkF m 30 #[.val (.ref a1), .val (.ref a2), .val (.ref a2), .val (.int (4 : Int32))] [(.ref a1), (.int (4 : Int32)), (.int (0 : Int32)), (.ref a2)])) rfl rfl (hb hby d15_30)
    have K78 : ∀ t, Steps p.tables e below (T77.setTop (mkF m 33 #[.val (.ref a1), .val (.ref a2), .val (.ref a2), .val (.int (4 : Int32))] [(.ref b65), (.int (4 : Int32)), (.int (0 : Int32)), (.ref a2)])) t → Steps p.tables e below G t := fun t k => K76 t (st77 t k)
    have K79 : ∀ t, Steps p.tables e below (T77.setTop (mkF m 34 #[.val (.ref a1), .val (.ref a2), .val (.ref a2), .val (.int (4 : Int32))] [(.ref a1), (.ref b65), (.int (4 : Int32)), (.int (0 : Int32)), (.ref a2)])) t → Steps p.tables e below G t := by
      intro t k
      refine K78 t ?_
      refine XS.aloadN X77.here hx rfl (hb hby d15_33) rfl rfl ?_
      exact k
    obtain ⟨T80, X80, e80, st80⟩ := getF X77 hx hZ hown (host := "") (Or.inl (hw _ (List.mem_of_getElem? (i := 83) rfl))) Via.refl e77 Fl65 (g := (mkF m 34 #[.val (.ref a1), .val (.ref a2), .val (.ref a2), .val (.int (4 : Int32))] [(.ref a1), (.ref b65), (.int (4 : Int32)), (.int (0 : Int32)), (.ref a2)])) rfl rfl (hb hby d15_34)
    have K81 : ∀ t, Steps p.tables e below (T80.setTop (mkF m 37 #[.val (.ref a1), .val (.ref a2), .val (.ref a2), .val (.int (4 : Int32))] [(.int (0 : Int32)), (.ref b65), (.int (4 : Int32)), (.int (0 : Int32)), (.ref a2)])) t → Steps p.tables e below G t := fun t k => K79 t (st80 t k)
    obtain ⟨cq82, kq82, q82a, q82b, q82c⟩ := isOf hZ e80 f68
    obtain ⟨_, _, ⟨T82, L82, kk82, nn82⟩, -, X82, ⟨Lc82, hQ82, lq82, yq82, zq82⟩, st82⟩ := X80.virtualBack hx (y := (⟨"java/lang/String", "getChars", "(II[CI)V"⟩ : MethodName)) (z := (⟨"java/lang/String", "getChars", "(II[CI)V"⟩ : MethodName)) hown (mvT hZ (hw _ (List.mem_of_getElem? (i := 104) rfl))) (mvT hZ (hw _ (List.mem_of_getElem? (i := 105) rfl))) (notFace_of_selects (args := #[]) (mvT hZ (hw _ (List.mem_of_getElem? (i := 107) rfl)))) (mvT hZ (hw _ (List.mem_of_getElem? (i := 107) rfl))) (mvT hZ (hw _ (List.mem_of_getElem? (i := 106) rfl))) (by decide) (backOf (W := 0) (rm22_u l Z a0 hw [] a2 b2 k2 ee0 ee1 ee2 ee3 b65 kb65 zb65 vs65 cs fv T65.heap n0 Z73 f68 f69 f70 f71 Vb65 ne_b2_b65 gb65 hz65.1 ne_a2_b65 hr0 hr1 hr2 hr3 SC hcs SA SH SL SF hfv f72) hZ (hw _ (List.mem_of_getElem? (i := 108) rfl)) (hw _ (List.mem_of_getElem? (i := 24) rfl)) (by decide) (by decide)) q82a q82c (g := (mkF m 37 #[.val (.ref a1), .val (.ref a2), .val (.ref a2), .val (.int (4 : Int32))] [(.int (0 : Int32)), (.ref b65), (.int (4 : Int32)), (.int (0 : Int32)), (.ref a2)])) rfl (by rw [hml]; rfl) (Steps.refl _) (argsL := [(.int (0 : Int32)), (.int (4 : Int32)), (.ref b65), (.int (0 : Int32))]) (rest := []) (lenOf pd_21 rfl) rfl (by show 2 * 0 + _ ≤ _; exact Nat.le_of_eq rfl) (hb hby d15_37) (fun _ _ => ⟨rfl, e80, (by decide : 1 + 0 ≤ _), (by decide : 10 + 0 ≤ _)⟩)
    dsimp only [Pt.U, Pt.locs, Pt.cells, Pt.slots] at X82 lq82 yq82 zq82 st82 hQ82
    subst lq82 yq82 zq82
    obtain ⟨vs82, rfl, Nq82, K82, V82, ct82⟩ := hQ82
    have N83 := Fr.app N66 Nq82
    have f84 := E65'.keep K82
    have f85 := f68.keep K82
    have f86 := f69.keep K82 (ninS ne_a2_b65 nin0)
    have f87 := f70.keep K82 (ninS ne_a2_b65 nin0)
    have f88 := f71.keep K82 (ninS ne_b2_b65 nin0)
    have f89 := f72.keep K82 (allS gb65 all0)
    have f90 := Fc65.keep K82 (ninS ne_a1_b65 nin0)
    have f91 := Fl65.keep K82 (ninS ne_a1_b65 nin0)
    have Z92 : n0 ≤ T82.heap.size := Nat.le_trans Z73 K82.1
    have KP93 : Keep h0 T82.heap [a1, b1] := KP74.trans K82 (allS (ob65.elim (fun q => Or.inl (q ▸ List.mem_of_getElem? (i := 1) rfl)) Or.inr) all0)
    have K94 : ∀ t, Steps p.tables e below (T82.setTop (mkF m 40 #[.val (.ref a1), .val (.ref a2), .val (.ref a2), .val (.int (4 : Int32))] [])) t → Steps p.tables e below G t := fun t k => K81 t (st82.trans k)
    have K95 : ∀ t, Steps p.tables e below (T82.setTop (mkF m 42 #[.val (.ref a1), .val (.ref a2), .val (.ref a2), .val (.int (4 : Int32))] [(.ref a1), (.ref a1)])) t → Steps p.tables e below G t := by
      intro t k
      refine K94 t ?_
      refine XS.aloadN X82.here hx rfl (hb hby d15_40) rfl rfl ?_
      refine XS.dup X82.here hx rfl (hb hby d15_41) rfl rfl ?_
      exact k
    obtain ⟨T96, X96, e96, st96⟩ := getF X82 hx hZ hown (host := "") (Or.inl (hw _ (List.mem_of_getElem? (i := 83) rfl))) Via.refl rfl f91 (g := (mkF m 42 #[.val (.ref a1), .val (.ref a2), .val (.ref a2), .val (.int (4 : Int32))] [(.ref a1), (.ref a1)])) rfl rfl (hb hby d15_42)
    have K97 : ∀ t, Steps p.tables e below (T96.setTop (mkF m 45 #[.val (.ref a1), .val (.ref a2), .val (.ref a2), .val (.int (4 : Int32))] [(.int (0 : Int32)), (.ref a1)])) t → Steps p.tables e below G t := fun t k => K95 t (st96 t k)
    have K98 : ∀ t, Steps p.tables e below (T96.setTop (mkF m 47 #[.val (.ref a1), .val (.ref a2), .val (.ref a2), .val (.int (4 : Int32))] [(.int (4 : Int32)), (.ref a1)])) t → Steps p.tables e below G t := by
      intro t k
      refine K97 t ?_
      refine XS.iloadN X96.here hx rfl (hb hby d15_45) rfl ?_
      refine XS.iadd X96.here hx rfl (hb hby d15_46) rfl ?_
      exact k
    obtain ⟨T99, h99, X99, e99, W99, st99⟩ := putF X96 hx hZ hown (host := "") (Or.inl (hw _ (List.mem_of_getElem? (i := 83) rfl))) Via.refl e96 f91 f84 (Or.inl (hw _ (List.mem_of_getElem? (i := 84) rfl))) (hw _ (List.mem_of_getElem? (i := 12) rfl)) (ty := .int) (by decide) rfl rfl (g := (mkF m 47 #[.val (.ref a1), .val (.ref a2), .val (.ref a2), .val (.int (4 : Int32))] [(.int (4 : Int32)), (.ref a1)])) rfl rfl (hb hby d15_47)
    have K100 : ∀ t, Steps p.tables e below (T99.setTop (mkF m 50 #[.val (.ref a1), .val (.ref a2), .val (.ref a2), .val (.int (4 : Int32))] [])) t → Steps p.tables e below G t := fun t k => K98 t (st99 t k)
    have f101 := f84.wr W99
    have f102 := f85.wr W99
    have f103 := f86.other W99 (Or.inl (Ne.symm n2))
    have f104 := f87.other W99 (Or.inl (Ne.symm n2))
    have f105 := f88.other W99 (Ne.symm n3)
    have f106 := f89.wr W99 g1
    have f107 := f90.other W99 (Or.inr (slot_ne (Or.inl (hw _ (List.mem_of_getElem? (i := 21) rfl))) (Or.inl (hw _ (List.mem_of_getElem? (i := 84) rfl))) (by decide) (t := (.array .char)) (t' := .int) (by decide) (by decide)))
    have f108 := f91.same W99
    have f109 := V82.other W99 (Ne.symm ne_a1_b65)
    have Z110 : n0 ≤ h99.size := Nat.le_trans Z92 (Keep.of_wr W99).1
    have KP111 : Keep h0 h99 [a1, b1] := KP93.wr W99 (Or.inl (List.mem_of_getElem? (i := 0) rfl))
    have N112 := Fr.snoc X99 N83 g1
    obtain ⟨fs, hr, hrun, hended, hW, hsame⟩ := X99.leave (v := some (.ref a1)) (fun h => by rw [Bd.returns] at h; cases h)
    have KF := K100
    rw [hG] at KF
    refine ⟨_, _, KF _ ?_, hrun, hended, _, _, rfl, ?_, ⟨_, rfl⟩, hW, hsame.mono (by decide) (by decide)⟩
    · refine XS.aloadN X99.here hx rfl (hb hby d15_50) rfl rfl ?_
      show Steps p.tables e below (T99.setTop (mkF m 51 #[.val (.ref a1), .val (.ref a2), .val (.ref a2), .val (.int (4 : Int32))] [(.ref a1)])) _
      exact own_retA X99 hx Bd.returns rfl rfl rfl (hb hby d15_51) hr
    · show Q15 Z a1 b1 ee0 ee1 ee2 ee3 h0 n0 _ T99.heap _
      rw [e99]
      exact ⟨_, _, _, _, rfl, N112, KP111, ob65, f101, f107, f108, f109, hz65, ct82⟩
def Q31 (Z : State) (a1 : Addr) (p2 : Int32) (b1 : Addr) (h0 : Heap) (n0 : Nat) (v : Option Value) (h : Heap) (L : List Loc) : Prop := v = none ∧ Fr n0 L ∧ Keep h0 h [a1] ∧ Exa Z h a1 "org/arborlog/pattern/LineText" ∧ Fld Z h a1 "org/arborlog/pattern/LineText" "chars" "[C" (.ref b1) ∧ Fld Z h a1 "org/arborlog/pattern/LineText" "length" "I" (.int p2)
theorem d31_0 : decode prog_20_method_9_code 0 = .ok (.aload_n 0, 1) := by decide +kernel
theorem d31_1 : decode prog_20_method_9_code 1 = .ok (.iload_n 1, 1) := by decide +kernel
theorem d31_2 : decode prog_20_method_9_code 2 = .ok (.putfield 13, 3) := by decide +kernel
theorem d31_5 : decode prog_20_method_9_code 5 = .ok (.return_, 1) := by decide +kernel
theorem ef_rm31 (m : MethodId) (x0 : Addr) (x1 : Int32) : entryFrame m #[(.ref x0), (.int x1)] 2 = mkF m 0 #[.val (.ref x0), .val (.int x1)] [] := by first | (simp [entryFrame, mkF, argsToLocals, Value.category]; done) | rfl
set_option maxRecDepth 65536 in
set_option maxHeartbeats 40000000 in
theorem rm31 (l : Launch) (Z : State) (a0 : Array Value) (hw : ∀ d ∈ tables_1, d.before a0 Z = true) (ws : List Jvm.Cond) (a1 : Addr) (p2 : Int32) (b1 : Addr) (m' : Int32) (h0 : Heap) (n0 : Nat) (Z0 : n0 ≤ h0.size) (E1 : Exa Z h0 a1 "org/arborlog/pattern/LineText") (F1 : Fld Z h0 a1 "org/arborlog/pattern/LineText" "chars" "[C" (.ref b1)) (F2 : Fld Z h0 a1 "org/arborlog/pattern/LineText" "length" "I" (.int m')) (g1 : n0 ≤ a1) :
    MetFree l (⟨"org/arborlog/pattern/LineText", "truncate", "(I)V"⟩ : MethodName) (head1 (Jvm.Cond.code (⟨"org/arborlog/pattern/LineText", "truncate", "(I)V"⟩ : MethodName) prog_20_method_9_code 2 none :: ws) ({ frames := 0, cells := 0, slots := 0, locals := 0 } : Room)) (fun a U => a = #[(.ref a1), (.int p2)] ∧ Z.Warmed39 U.vm ∧ U.heap = h0) (fun _ _ _ _ _ => True) (fun _ U o U' => ∃ v L, o = .returned v ∧ Q31 Z a1 p2 b1 h0 n0 v U'.heap L ∧ FrameEnd U o U' L ({ frames := 0, cells := 0, slots := 0, locals := 0 } : Room).cells ({ frames := 0, cells := 0, slots := 0, locals := 0 } : Room).slots) := by
  refine MetFree.of_bodySF (plainFor_of_name pn_org_arborlog_pattern_LineText) hisR ?_
  intro p e s m args below meth c s₁ Bd hml0 hP hK
  obtain ⟨rfl, hZ, hh⟩ := hP
  have hx := Bd.exec
  have hby := Bd.bytes
  have hml : c.maxLocals = 2 := hml0
  have hown : s.vm.findClass "org/arborlog/pattern/LineText" = some m.cls := findClass_of_methodNamed Bd.named
  have hnm := (name_of_methodNamed Bd.named Bd.method).1
  have X0 : Stand p l e ({ frames := 0, cells := 0, slots := 0, locals := 0 } : Room) s m #[(.ref a1), (.int p2)] below meth c s₁ [] 0 0 := Stand.of_body Bd
  have e0 : s₁.heap = h0 := by rw [← hh, Bd.state]; rfl
  have N0 := Fr.nil n0
  have KP0 : Keep h0 h0 [a1] := Keep.refl h0 _
  obtain ⟨G, hG⟩ : ∃ G : State, G = s₁.setTop (entryFrame m #[(.ref a1), (.int p2)] 2) := ⟨_, rfl⟩
  have pre0 : ∀ t, Steps p.tables e below (s₁.setTop (mkF m 0 #[.val (.ref a1), .val (.int p2)] [])) t → Steps p.tables e below G t := fun t k => hG ▸ castTop (ef_rm31 m a1 p2) k
  have K1 : ∀ t, Steps p.tables e below (s₁.setTop (mkF m 2 #[.val (.ref a1), .val (.int p2)] [(.int p2), (.ref a1)])) t → Steps p.tables e below G t := by
    intro t k
    refine pre0 t ?_
    refine XS.aloadN X0.here hx rfl (hb hby d31_0) rfl rfl ?_
    refine XS.iloadN X0.here hx rfl (hb hby d31_1) rfl ?_
    exact k
  obtain ⟨T2, h2, X2, e2, W2, st2⟩ := putF X0 hx hZ hown (host := "") (Or.inl (hw _ (List.mem_of_getElem? (i := 83) rfl))) Via.refl e0 F2 E1 (Or.inl (hw _ (List.mem_of_getElem? (i := 84) rfl))) (hw _ (List.mem_of_getElem? (i := 12) rfl)) (ty := .int) (by decide) rfl rfl (g := (mkF m 2 #[.val (.ref a1), .val (.int p2)] [(.int p2), (.ref a1)])) rfl rfl (hb hby d31_2)
  have K3 : ∀ t, Steps p.tables e below (T2.setTop (mkF m 5 #[.val (.ref a1), .val (.int p2)] [])) t → Steps p.tables e below G t := fun t k => K1 t (st2 t k)
  have f4 := E1.wr W2
  have f5 := F1.other W2 (Or.inr (slot_ne (Or.inl (hw _ (List.mem_of_getElem? (i := 21) rfl))) (Or.inl (hw _ (List.mem_of_getElem? (i := 84) rfl))) (by decide) (t := (.array .char)) (t' := .int) (by decide) (by decide)))
  have f6 := F2.same W2
  have Z7 : n0 ≤ h2.size := Nat.le_trans Z0 (Keep.of_wr W2).1
  have KP8 : Keep h0 h2 [a1] := KP0.wr W2 (Or.inl (List.mem_of_getElem? (i := 0) rfl))
  have N9 := Fr.snoc X2 N0 g1
  obtain ⟨fs, hr, hrun, hended, hW, hsame⟩ := X2.leave (v := none) (fun _ => rfl)
  have KF := K3
  rw [hG] at KF
  refine ⟨_, _, KF _ ?_, hrun, hended, _, _, rfl, ?_, ⟨_, rfl⟩, hW, hsame.mono (by decide) (by decide)⟩
  · show Steps p.tables e below (T2.setTop (mkF m 5 #[.val (.ref a1), .val (.int p2)] [])) _
    exact X2.returnOut hx Bd.returns (hb hby d31_5) hr
  · show Q31 Z a1 p2 b1 h0 n0 _ T2.heap _
    rw [e2]
    exact ⟨rfl, N9, KP8, f4, f5, f6⟩
def own_hi (c : Int32) : Int32 := if c < (55296 : Int32) then (0 : Int32) else if c < (56320 : Int32) then (1 : Int32) else (0 : Int32)
def own_lo (c : Int32) : Int32 := if c < (56320 : Int32) then (0 : Int32) else if c < (57344 : Int32) then (1 : Int32) else (0 : Int32)
theorem own_gt (c k k1 : Int32) (h : k1.toInt = k.toInt + 1) : k < c ↔ ¬ c < k1 := by rw [Int32.lt_iff_toInt_lt, Int32.lt_iff_toInt_lt]; omega
def own_F (f : Nat → Int32) (n x : Int32) : Int32 := if x < (0 : Int32) then (-1 : Int32) else if x < n then (if own_hi (f x.toNatClampNeg) = (0 : Int32) then (x + (1 : Int32)) else if (x + (1 : Int32)) < n then (if own_lo (f (x + (1 : Int32)).toNatClampNeg) = (0 : Int32) then (x + (1 : Int32)) else (x + (2 : Int32))) else (x + (1 : Int32))) else (-1 : Int32)
def own_B (f : Nat → Int32) (x : Int32) : Int32 := if (0 : Int32) < x then (if own_lo (f (x - (1 : Int32)).toNatClampNeg) = (0 : Int32) then (x - (1 : Int32)) else if (0 : Int32) < (x - (1 : Int32)) then (if own_hi (f (x - (2 : Int32)).toNatClampNeg) = (0 : Int32) then (x - (1 : Int32)) else (x - (2 : Int32))) else (x - (1 : Int32))) else (-1 : Int32)
def own_it (g : Int32 → Int32) : Nat → Int32 → Int32
  | 0, x => x
  | k + 1, x => own_it g k (g x)
theorem own_m1 (x : Int32) : x + (-1 : Int32) = x - (1 : Int32) := (Int32.sub_eq_add_neg x 1).symm
theorem own_a2 (x : Int32) : x + (1 : Int32) + (1 : Int32) = x + (2 : Int32) := by rw [Int32.add_assoc]; rfl
theorem own_m2 (x : Int32) : x - (1 : Int32) - (1 : Int32) = x - (2 : Int32) := by rw [Int32.sub_eq_add_neg, Int32.sub_eq_add_neg, Int32.sub_eq_add_neg, Int32.add_assoc]; rfl
theorem own_m3 (x : Int32) : x - (1 : Int32) + (-1 : Int32) = x - (2 : Int32) := by rw [own_m1, own_m2]
theorem own_at {i n z : Int32} (h0 : ¬ i < 0) (h : i < n) (hn : n.toInt ≤ 4) (hz : ¬ z < 4) : (¬ i < 0 ∧ i < z) ∧ i.toNatClampNeg < 4 := by
  have z0 : (0 : Int32).toInt = 0 := rfl
  have z4 : (4 : Int32).toInt = 4 := rfl
  simp only [Int32.lt_iff_toInt_lt, Int32.toNatClampNeg] at *; omega
theorem own_p1 {i n : Int32} (h0 : ¬ i < 0) (h : i < n) (hn : n.toInt ≤ 4) : ¬ (i + (1 : Int32)) < 0 := by
  have z0 : (0 : Int32).toInt = 0 := rfl
  have z1 : (1 : Int32).toInt = 1 := rfl
  have a := c_iadd i 1; have r := rng32 (i + 1)
  simp only [Int32.lt_iff_toInt_lt] at *; omega
theorem own_d1 {x z : Int32} (h : (0 : Int32) < x) (hx : x.toInt ≤ 4) (hz : ¬ z < 4) : (¬ (x - (1 : Int32)) < 0 ∧ (x - (1 : Int32)) < z) ∧ (x - (1 : Int32)).toNatClampNeg < 4 := by
  have z0 : (0 : Int32).toInt = 0 := rfl
  have z1 : (1 : Int32).toInt = 1 := rfl
  have z4 : (4 : Int32).toInt = 4 := rfl
  have a := c_isub x 1; have r := rng32 (x - 1)
  simp only [Int32.lt_iff_toInt_lt, Int32.toNatClampNeg] at *; omega
theorem own_d2 {x z : Int32} (h : (0 : Int32) < x) (h' : (0 : Int32) < (x - (1 : Int32))) (hx : x.toInt ≤ 4) (hz : ¬ z < 4) : (¬ (x - (2 : Int32)) < 0 ∧ (x - (2 : Int32)) < z) ∧ (x - (2 : Int32)).toNatClampNeg < 4 := by
  have z0 : (0 : Int32).toInt = 0 := rfl
  have z1 : (1 : Int32).toInt = 1 := rfl
  have z2 : (2 : Int32).toInt = 2 := rfl
  have z4 : (4 : Int32).toInt = 4 := rfl
  have a := c_isub x 1; have r := rng32 (x - 1); have a2 := c_isub x 2; have r2 := rng32 (x - 2); have r3 := rng32 x
  simp only [Int32.lt_iff_toInt_lt, Int32.toNatClampNeg] at *; omega
theorem own_Fm (f : Nat → Int32) (n : Int32) : ∀ k, own_it (own_F f n) k (-1) = -1
  | 0 => rfl
  | k + 1 => by show own_it (own_F f n) k (own_F f n (-1)) = -1; rw [show own_F f n (-1) = -1 from if_pos (by decide)]; exact own_Fm f n k
theorem own_Bm (f : Nat → Int32) : ∀ k, own_it (own_B f) k (-1) = -1
  | 0 => rfl
  | k + 1 => by show own_it (own_B f) k (own_B f (-1)) = -1; rw [show own_B f (-1) = -1 from if_neg (by decide)]; exact own_Bm f k
theorem own_Fpos {f : Nat → Int32} {n x : Int32} {k : Nat} (h : ¬ own_it (own_F f n) (k + 1) x < 0) : ¬ x < 0 ∧ x < n := by
  refine ⟨fun q => h ?_, Classical.byContradiction fun q => h ?_⟩
  · show own_it (own_F f n) k (own_F f n x) < 0; rw [show own_F f n x = -1 from if_pos q, own_Fm]; decide
  · show own_it (own_F f n) k (own_F f n x) < 0
    have e : own_F f n x = -1 := by unfold own_F; rw [if_neg q]; split <;> rfl
    rw [e, own_Fm]; decide
theorem own_Bpos {f : Nat → Int32} {x : Int32} {k : Nat} (h : ¬ own_it (own_B f) (k + 1) x < 0) : (0 : Int32) < x := by
  refine Classical.byContradiction fun q => h ?_
  show own_it (own_B f) k (own_B f x) < 0; rw [show own_B f x = -1 from if_neg q, own_Bm]; decide
theorem own_B4 {f : Nat → Int32} {x : Int32} (h : (0 : Int32) < x) (hx : x.toInt ≤ 4) : (own_B f x).toInt ≤ 4 := by
  have z0 : (0 : Int32).toInt = 0 := rfl
  have z1 : (1 : Int32).toInt = 1 := rfl
  have z2 : (2 : Int32).toInt = 2 := rfl
  have a := c_isub x 1; have r := rng32 (x - 1); have a2 := c_isub x 2; have r2 := rng32 (x - 2); have r3 := rng32 x
  rw [Int32.lt_iff_toInt_lt] at h
  have ee1 : (x - 1).toInt ≤ 4 := by omega
  have ee2 : (x - 2).toInt ≤ 4 := by omega
  unfold own_B
  split
  · split
    · exact ee1
    · split
      · split
        · exact ee1
        · exact ee2
      · exact ee1
  · decide
def Q36 (p1 : Int32) (h0 : Heap) (n0 : Nat) (v : Option Value) (h : Heap) (L : List Loc) : Prop := v = some (.int (own_hi p1)) ∧ Fr n0 L ∧ h = h0
theorem d36_0 : decode method_4_code 0 = .ok (.iload_n 0, 1) := by decide +kernel
theorem d36_1 : decode method_4_code 1 = .ok (.ldc 42, 2) := by decide +kernel
theorem d36_3 : decode method_4_code 3 = .ok (.if_icmp .lt 13, 3) := by decide +kernel
theorem d36_6 : decode method_4_code 6 = .ok (.iload_n 0, 1) := by decide +kernel
theorem d36_7 : decode method_4_code 7 = .ok (.ldc 45, 2) := by decide +kernel
theorem d36_9 : decode method_4_code 9 = .ok (.if_icmp .gt 7, 3) := by decide +kernel
theorem d36_12 : decode method_4_code 12 = .ok (.iconst 1, 1) := by decide +kernel
theorem d36_13 : decode method_4_code 13 = .ok (.goto 4, 3) := by decide +kernel
theorem d36_16 : decode method_4_code 16 = .ok (.iconst 0, 1) := by decide +kernel
theorem d36_17 : decode method_4_code 17 = .ok (.ireturn, 1) := by decide +kernel
theorem pn_org_arborlog_pattern_LineTextOffsetByCodePointsPinLaw : plainName "org/arborlog/pattern/LineTextOffsetByCodePointsPinLaw" = true := by first | (simp [plainName, overriddenIn]; done) | decide +kernel
theorem ef_rm36 (m : MethodId) (x0 : Int32) : entryFrame m #[(.int x0)] 1 = mkF m 0 #[.val (.int x0)] [] := by first | (simp [entryFrame, mkF, argsToLocals, Value.category]; done) | rfl
set_option maxRecDepth 65536 in
set_option maxHeartbeats 40000000 in
theorem rm36 (l : Launch) (Z : State) (a0 : Array Value) (hw : ∀ d ∈ tables_1, d.before a0 Z = true) (ws : List Jvm.Cond) (p1 : Int32) (h0 : Heap) (n0 : Nat) (Z0 : n0 ≤ h0.size) :
    MetFree l (⟨"org/arborlog/pattern/LineTextOffsetByCodePointsPinLaw", "isHigh", "(C)Z"⟩ : MethodName) (head1 (Jvm.Cond.code (⟨"org/arborlog/pattern/LineTextOffsetByCodePointsPinLaw", "isHigh", "(C)Z"⟩ : MethodName) method_4_code 1 (some .boolean) :: ws) ({ frames := 0, cells := 0, slots := 0, locals := 0 } : Room)) (fun a U => a = #[(.int p1)] ∧ Z.Warmed39 U.vm ∧ U.heap = h0) (fun _ _ _ _ _ => True) (fun _ U o U' => ∃ v L, o = .returned v ∧ Q36 p1 h0 n0 v U'.heap L ∧ FrameEnd U o U' L ({ frames := 0, cells := 0, slots := 0, locals := 0 } : Room).cells ({ frames := 0, cells := 0, slots := 0, locals := 0 } : Room).slots) := by
  refine MetFree.of_bodySF (plainFor_of_name pn_org_arborlog_pattern_LineTextOffsetByCodePointsPinLaw) hisR ?_
  intro p e s m args below meth c s₁ Bd hml0 hP hK
  obtain ⟨rfl, hZ, hh⟩ := hP
  have hx := Bd.exec
  have hby := Bd.bytes
  have hml : c.maxLocals = 1 := hml0
  have hown : s.vm.findClass "org/arborlog/pattern/LineTextOffsetByCodePointsPinLaw" = some m.cls := findClass_of_methodNamed Bd.named
  have hnm := (name_of_methodNamed Bd.named Bd.method).1
  have X0 : Stand p l e ({ frames := 0, cells := 0, slots := 0, locals := 0 } : Room) s m #[(.int p1)] below meth c s₁ [] 0 0 := Stand.of_body Bd
  have e0 : s₁.heap = h0 := by rw [← hh, Bd.state]; rfl
  have N0 := Fr.nil n0
  have KP0 : Keep h0 h0 [] := Keep.refl h0 _
  obtain ⟨G, hG⟩ : ∃ G : State, G = s₁.setTop (entryFrame m #[(.int p1)] 1) := ⟨_, rfl⟩
  have pre0 : ∀ t, Steps p.tables e below (s₁.setTop (mkF m 0 #[.val (.int p1)] [])) t → Steps p.tables e below G t := fun t k => hG ▸ castTop (ef_rm36 m p1) k
  have K1 : ∀ t, Steps p.tables e below (s₁.setTop (mkF m 3 #[.val (.int p1)] [(.int (55296 : Int32)), (.int p1)])) t → Steps p.tables e below G t := by
    intro t k
    refine pre0 t ?_
    refine XS.iloadN X0.here hx rfl (hb hby d36_0) rfl ?_
    refine X0.ldcInt hx hown (mvT hZ (hw _ (List.mem_of_getElem? (i := 7) rfl))) (g := (mkF m 1 #[.val (.int p1)] [(.int p1)])) rfl (hb hby d36_1) _ ?_
    exact k
  by_cases hc2 : p1 < (55296 : Int32)
  · obtain ⟨fs, hr, hrun, hended, hW, hsame⟩ := X0.leave (v := some (.int (0 : Int32))) (fun h => by rw [Bd.returns] at h; cases h)
    have KF := K1
    rw [hG] at KF
    refine ⟨_, _, KF _ ?_, hrun, hended, _, _, rfl, ?_, ⟨_, rfl⟩, hW, hsame.mono (by decide) (by decide)⟩
    · refine XS.icmpYes X0.here hx rfl (pc0 := 3) (pc' := 16) rfl (hb hby d36_3) rfl (tlt hc2).1 (by decide) (by decide) ?_
      refine XS.iconst X0.here hx rfl (hb hby d36_16) ?_
      show Steps p.tables e below (s₁.setTop (mkF m 17 #[.val (.int p1)] [(.int (0 : Int32))])) _
      exact retN X0 hx (t := .boolean) Bd.returns (by simp) (hb hby d36_17) hr
    · show Q36 p1 h0 n0 _ s₁.heap _
      rw [e0]
      exact ⟨by simp only [own_hi, if_pos hc2], N0, rfl⟩
  · have K3 : ∀ t, Steps p.tables e below (s₁.setTop (mkF m 9 #[.val (.int p1)] [(.int (56319 : Int32)), (.int p1)])) t → Steps p.tables e below G t := by
      intro t k
      refine K1 t ?_
      refine XS.icmpNo X0.here hx rfl (hb hby d36_3) rfl (flt hc2).1 ?_
      refine XS.iloadN X0.here hx rfl (hb hby d36_6) rfl ?_
      refine X0.ldcInt hx hown (mvT hZ (hw _ (List.mem_of_getElem? (i := 166) rfl))) (g := (mkF m 7 #[.val (.int p1)] [(.int p1)])) rfl (hb hby d36_7) _ ?_
      exact k
    by_cases hc4 : (56319 : Int32) < p1
    · obtain ⟨fs, hr, hrun, hended, hW, hsame⟩ := X0.leave (v := some (.int (0 : Int32))) (fun h => by rw [Bd.returns] at h; cases h)
      have KF := K3
      rw [hG] at KF
      refine ⟨_, _, KF _ ?_, hrun, hended, _, _, rfl, ?_, ⟨_, rfl⟩, hW, hsame.mono (by decide) (by decide)⟩
      · refine XS.icmpYes X0.here hx rfl (pc0 := 9) (pc' := 16) rfl (hb hby d36_9) rfl (tlt hc4).2.2.1 (by decide) (by decide) ?_
        refine XS.iconst X0.here hx rfl (hb hby d36_16) ?_
        show Steps p.tables e below (s₁.setTop (mkF m 17 #[.val (.int p1)] [(.int (0 : Int32))])) _
        exact retN X0 hx (t := .boolean) Bd.returns (by simp) (hb hby d36_17) hr
      · show Q36 p1 h0 n0 _ s₁.heap _
        rw [e0]
        exact ⟨by simp only [own_hi, if_neg hc2, if_neg ((own_gt _ 56319 56320 rfl).mp hc4)], N0, rfl⟩
    · obtain ⟨fs, hr, hrun, hended, hW, hsame⟩ := X0.leave (v := some (.int (1 : Int32))) (fun h => by rw [Bd.returns] at h; cases h)
      have KF := K3
      rw [hG] at KF
      refine ⟨_, _, KF _ ?_, hrun, hended, _, _, rfl, ?_, ⟨_, rfl⟩, hW, hsame.mono (by decide) (by decide)⟩
      · refine XS.icmpNo X0.here hx rfl (hb hby d36_9) rfl (flt hc4).2.2.1 ?_
        refine XS.iconst X0.here hx rfl (hb hby d36_12) ?_
        refine XS.goto X0.here hx rfl (pc0 := 13) (pc' := 17) rfl (hb hby d36_13) (by decide) (by decide) ?_
        show Steps p.tables e below (s₁.setTop (mkF m 17 #[.val (.int p1)] [(.int (1 : Int32))])) _
        exact retN X0 hx (t := .boolean) Bd.returns (by simp) (hb hby d36_17) hr
      · show Q36 p1 h0 n0 _ s₁.heap _
        rw [e0]
        exact ⟨by simp only [own_hi, if_neg hc2, if_pos (Classical.not_not.mp (fun q => hc4 ((own_gt _ 56319 56320 rfl).mpr q)))], N0, rfl⟩
def Q38 (p1 : Int32) (h0 : Heap) (n0 : Nat) (v : Option Value) (h : Heap) (L : List Loc) : Prop := v = some (.int (own_lo p1)) ∧ Fr n0 L ∧ h = h0
theorem d38_0 : decode method_5_code 0 = .ok (.iload_n 0, 1) := by decide +kernel
theorem d38_1 : decode method_5_code 1 = .ok (.ldc 43, 2) := by decide +kernel
theorem d38_3 : decode method_5_code 3 = .ok (.if_icmp .lt 13, 3) := by decide +kernel
theorem d38_6 : decode method_5_code 6 = .ok (.iload_n 0, 1) := by decide +kernel
theorem d38_7 : decode method_5_code 7 = .ok (.ldc 46, 2) := by decide +kernel
theorem d38_9 : decode method_5_code 9 = .ok (.if_icmp .gt 7, 3) := by decide +kernel
theorem d38_12 : decode method_5_code 12 = .ok (.iconst 1, 1) := by decide +kernel
theorem d38_13 : decode method_5_code 13 = .ok (.goto 4, 3) := by decide +kernel
theorem d38_16 : decode method_5_code 16 = .ok (.iconst 0, 1) := by decide +kernel
theorem d38_17 : decode method_5_code 17 = .ok (.ireturn, 1) := by decide +kernel
theorem ef_rm38 (m : MethodId) (x0 : Int32) : entryFrame m #[(.int x0)] 1 = mkF m 0 #[.val (.int x0)] [] := by first | (simp [entryFrame, mkF, argsToLocals, Value.category]; done) | rfl
set_option maxRecDepth 65536 in
set_option maxHeartbeats 40000000 in
theorem rm38 (l : Launch) (Z : State) (a0 : Array Value) (hw : ∀ d ∈ tables_1, d.before a0 Z = true) (ws : List Jvm.Cond) (p1 : Int32) (h0 : Heap) (n0 : Nat) (Z0 : n0 ≤ h0.size) :
    MetFree l (⟨"org/arborlog/pattern/LineTextOffsetByCodePointsPinLaw", "isLow", "(C)Z"⟩ : MethodName) (head1 (Jvm.Cond.code (⟨"org/arborlog/pattern/LineTextOffsetByCodePointsPinLaw", "isLow", "(C)Z"⟩ : MethodName) method_5_code 1 (some .boolean) :: ws) ({ frames := 0, cells := 0, slots := 0, locals := 0 } : Room)) (fun a U => a = #[(.int p1)] ∧ Z.Warmed39 U.vm ∧ U.heap = h0) (fun _ _ _ _ _ => True) (fun _ U o U' => ∃ v L, o = .returned v ∧ Q38 p1 h0 n0 v U'.heap L ∧ FrameEnd U o U' L ({ frames := 0, cells := 0, slots := 0, locals := 0 } : Room).cells ({ frames := 0, cells := 0, slots := 0, locals := 0 } : Room).slots) := by
  refine MetFree.of_bodySF (plainFor_of_name pn_org_arborlog_pattern_LineTextOffsetByCodePointsPinLaw) hisR ?_
  intro p e s m args below meth c s₁ Bd hml0 hP hK
  obtain ⟨rfl, hZ, hh⟩ := hP
  have hx := Bd.exec
  have hby := Bd.bytes
  have hml : c.maxLocals = 1 := hml0
  have hown : s.vm.findClass "org/arborlog/pattern/LineTextOffsetByCodePointsPinLaw" = some m.cls := findClass_of_methodNamed Bd.named
  have hnm := (name_of_methodNamed Bd.named Bd.method).1
  have X0 : Stand p l e ({ frames := 0, cells := 0, slots := 0, locals := 0 } : Room) s m #[(.int p1)] below meth c s₁ [] 0 0 := Stand.of_body Bd
  have e0 : s₁.heap = h0 := by rw [← hh, Bd.state]; rfl
  have N0 := Fr.nil n0
  have KP0 : Keep h0 h0 [] := Keep.refl h0 _
  obtain ⟨G, hG⟩ : ∃ G : State, G = s₁.setTop (entryFrame m #[(.int p1)] 1) := ⟨_, rfl⟩
  have pre0 : ∀ t, Steps p.tables e below (s₁.setTop (mkF m 0 #[.val (.int p1)] [])) t → Steps p.tables e below G t := fun t k => hG ▸ castTop (ef_rm38 m p1) k
  have K1 : ∀ t, Steps p.tables e below (s₁.setTop (mkF m 3 #[.val (.int p1)] [(.int (56320 : Int32)), (.int p1)])) t → Steps p.tables e below G t := by
    intro t k
    refine pre0 t ?_
    refine XS.iloadN X0.here hx rfl (hb hby d38_0) rfl ?_
    refine X0.ldcInt hx hown (mvT hZ (hw _ (List.mem_of_getElem? (i := 6) rfl))) (g := (mkF m 1 #[.val (.int p1)] [(.int p1)])) rfl (hb hby d38_1) _ ?_
    exact k
  by_cases hc2 : p1 < (56320 : Int32)
  · obtain ⟨fs, hr, hrun, hended, hW, hsame⟩ := X0.leave (v := some (.int (0 : Int32))) (fun h => by rw [Bd.returns] at h; cases h)
    have KF := K1
    rw [hG] at KF
    refine ⟨_, _, KF _ ?_, hrun, hended, _, _, rfl, ?_, ⟨_, rfl⟩, hW, hsame.mono (by decide) (by decide)⟩
    · refine XS.icmpYes X0.here hx rfl (pc0 := 3) (pc' := 16) rfl (hb hby d38_3) rfl (tlt hc2).1 (by decide) (by decide) ?_
      refine XS.iconst X0.here hx rfl (hb hby d38_16) ?_
      show Steps p.tables e below (s₁.setTop (mkF m 17 #[.val (.int p1)] [(.int (0 : Int32))])) _
      exact retN X0 hx (t := .boolean) Bd.returns (by simp) (hb hby d38_17) hr
    · show Q38 p1 h0 n0 _ s₁.heap _
      rw [e0]
      exact ⟨by simp only [own_lo, if_pos hc2], N0, rfl⟩
  · have K3 : ∀ t, Steps p.tables e below (s₁.setTop (mkF m 9 #[.val (.int p1)] [(.int (57343 : Int32)), (.int p1)])) t → Steps p.tables e below G t := by
      intro t k
      refine K1 t ?_
      refine XS.icmpNo X0.here hx rfl (hb hby d38_3) rfl (flt hc2).1 ?_
      refine XS.iloadN X0.here hx rfl (hb hby d38_6) rfl ?_
      refine X0.ldcInt hx hown (mvT hZ (hw _ (List.mem_of_getElem? (i := 171) rfl))) (g := (mkF m 7 #[.val (.int p1)] [(.int p1)])) rfl (hb hby d38_7) _ ?_
      exact k
    by_cases hc4 : (57343 : Int32) < p1
    · obtain ⟨fs, hr, hrun, hended, hW, hsame⟩ := X0.leave (v := some (.int (0 : Int32))) (fun h => by rw [Bd.returns] at h; cases h)
      have KF := K3
      rw [hG] at KF
      refine ⟨_, _, KF _ ?_, hrun, hended, _, _, rfl, ?_, ⟨_, rfl⟩, hW, hsame.mono (by decide) (by decide)⟩
      · refine XS.icmpYes X0.here hx rfl (pc0 := 9) (pc' := 16) rfl (hb hby d38_9) rfl (tlt hc4).2.2.1 (by decide) (by decide) ?_
        refine XS.iconst X0.here hx rfl (hb hby d38_16) ?_
        show Steps p.tables e below (s₁.setTop (mkF m 17 #[.val (.int p1)] [(.int (0 : Int32))])) _
        exact retN X0 hx (t := .boolean) Bd.returns (by simp) (hb hby d38_17) hr
      · show Q38 p1 h0 n0 _ s₁.heap _
        rw [e0]
        exact ⟨by simp only [own_lo, if_neg hc2, if_neg ((own_gt _ 57343 57344 rfl).mp hc4)], N0, rfl⟩
    · obtain ⟨fs, hr, hrun, hended, hW, hsame⟩ := X0.leave (v := some (.int (1 : Int32))) (fun h => by rw [Bd.returns] at h; cases h)
      have KF := K3
      rw [hG] at KF
      refine ⟨_, _, KF _ ?_, hrun, hended, _, _, rfl, ?_, ⟨_, rfl⟩, hW, hsame.mono (by decide) (by decide)⟩
      · refine XS.icmpNo X0.here hx rfl (hb hby d38_9) rfl (flt hc4).2.2.1 ?_
        refine XS.iconst X0.here hx rfl (hb hby d38_12) ?_
        refine XS.goto X0.here hx rfl (pc0 := 13) (pc' := 17) rfl (hb hby d38_13) (by decide) (by decide) ?_
        show Steps p.tables e below (s₁.setTop (mkF m 17 #[.val (.int p1)] [(.int (1 : Int32))])) _
        exact retN X0 hx (t := .boolean) Bd.returns (by simp) (hb hby d38_17) hr
      · show Q38 p1 h0 n0 _ s₁.heap _
        rw [e0]
        exact ⟨by simp only [own_lo, if_neg hc2, if_pos (Classical.not_not.mp (fun q => hc4 ((own_gt _ 57343 57344 rfl).mpr q)))], N0, rfl⟩
def Q37 (p1 : Int32) (h0 : Heap) (n0 : Nat) (v : Option Value) (h : Heap) (L : List Loc) : Prop := v = some (.int (own_hi p1)) ∧ Fr n0 L ∧ h = h0
theorem d37_0 : decode jdk_89_method_14_code 0 = .ok (.iload_n 0, 1) := by decide +kernel
theorem d37_1 : decode jdk_89_method_14_code 1 = .ok (.ldc 75, 2) := by decide +kernel
theorem d37_3 : decode jdk_89_method_14_code 3 = .ok (.if_icmp .lt 13, 3) := by decide +kernel
theorem d37_6 : decode jdk_89_method_14_code 6 = .ok (.iload_n 0, 1) := by decide +kernel
theorem d37_7 : decode jdk_89_method_14_code 7 = .ok (.ldc 76, 2) := by decide +kernel
theorem d37_9 : decode jdk_89_method_14_code 9 = .ok (.if_icmp .ge 7, 3) := by decide +kernel
theorem d37_12 : decode jdk_89_method_14_code 12 = .ok (.iconst 1, 1) := by decide +kernel
theorem d37_13 : decode jdk_89_method_14_code 13 = .ok (.goto 4, 3) := by decide +kernel
theorem d37_16 : decode jdk_89_method_14_code 16 = .ok (.iconst 0, 1) := by decide +kernel
theorem d37_17 : decode jdk_89_method_14_code 17 = .ok (.ireturn, 1) := by decide +kernel
theorem pn_java_lang_Character : plainName "java/lang/Character" = true := by first | (simp [plainName, overriddenIn]; done) | decide +kernel
theorem ef_rm37 (m : MethodId) (x0 : Int32) : entryFrame m #[(.int x0)] 1 = mkF m 0 #[.val (.int x0)] [] := by first | (simp [entryFrame, mkF, argsToLocals, Value.category]; done) | rfl
set_option maxRecDepth 65536 in
set_option maxHeartbeats 40000000 in
theorem rm37 (l : Launch) (Z : State) (a0 : Array Value) (hw : ∀ d ∈ tables_1, d.before a0 Z = true) (ws : List Jvm.Cond) (p1 : Int32) (h0 : Heap) (n0 : Nat) (Z0 : n0 ≤ h0.size) :
    MetFree l (⟨"java/lang/Character", "isHighSurrogate", "(C)Z"⟩ : MethodName) (head1 (Jvm.Cond.code (⟨"java/lang/Character", "isHighSurrogate", "(C)Z"⟩ : MethodName) jdk_89_method_14_code 1 (some .boolean) :: ws) ({ frames := 0, cells := 0, slots := 0, locals := 0 } : Room)) (fun a U => a = #[(.int p1)] ∧ Z.Warmed39 U.vm ∧ U.heap = h0) (fun _ _ _ _ _ => True) (fun _ U o U' => ∃ v L, o = .returned v ∧ Q37 p1 h0 n0 v U'.heap L ∧ FrameEnd U o U' L ({ frames := 0, cells := 0, slots := 0, locals := 0 } : Room).cells ({ frames := 0, cells := 0, slots := 0, locals := 0 } : Room).slots) := by
  refine MetFree.of_bodySF (plainFor_of_name pn_java_lang_Character) hisR ?_
  intro p e s m args below meth c s₁ Bd hml0 hP hK
  obtain ⟨rfl, hZ, hh⟩ := hP
  have hx := Bd.exec
  have hby := Bd.bytes
  have hml : c.maxLocals = 1 := hml0
  have hown : s.vm.findClass "java/lang/Character" = some m.cls := findClass_of_methodNamed Bd.named
  have hnm := (name_of_methodNamed Bd.named Bd.method).1
  have X0 : Stand p l e ({ frames := 0, cells := 0, slots := 0, locals := 0 } : Room) s m #[(.int p1)] below meth c s₁ [] 0 0 := Stand.of_body Bd
  have e0 : s₁.heap = h0 := by rw [← hh, Bd.state]; rfl
  have N0 := Fr.nil n0
  have KP0 : Keep h0 h0 [] := Keep.refl h0 _
  obtain ⟨G, hG⟩ : ∃ G : State, G = s₁.setTop (entryFrame m #[(.int p1)] 1) := ⟨_, rfl⟩
  have pre0 : ∀ t, Steps p.tables e below (s₁.setTop (mkF m 0 #[.val (.int p1)] [])) t → Steps p.tables e below G t := fun t k => hG ▸ castTop (ef_rm37 m p1) k
  have K1 : ∀ t, Steps p.tables e below (s₁.setTop (mkF m 3 #[.val (.int p1)] [(.int (55296 : Int32)), (.int p1)])) t → Steps p.tables e below G t := by
    intro t k
    refine pre0 t ?_
    refine XS.iloadN X0.here hx rfl (hb hby d37_0) rfl ?_
    refine X0.ldcInt hx hown (mvT hZ (hw _ (List.mem_of_getElem? (i := 165) rfl))) (g := (mkF m 1 #[.val (.int p1)] [(.int p1)])) rfl (hb hby d37_1) _ ?_
    exact k
  by_cases hc2 : p1 < (55296 : Int32)
  · obtain ⟨fs, hr, hrun, hended, hW, hsame⟩ := X0.leave (v := some (.int (0 : Int32))) (fun h => by rw [Bd.returns] at h; cases h)
    have KF := K1
    rw [hG] at KF
    refine ⟨_, _, KF _ ?_, hrun, hended, _, _, rfl, ?_, ⟨_, rfl⟩, hW, hsame.mono (by decide) (by decide)⟩
    · refine XS.icmpYes X0.here hx rfl (pc0 := 3) (pc' := 16) rfl (hb hby d37_3) rfl (tlt hc2).1 (by decide) (by decide) ?_
      refine XS.iconst X0.here hx rfl (hb hby d37_16) ?_
      show Steps p.tables e below (s₁.setTop (mkF m 17 #[.val (.int p1)] [(.int (0 : Int32))])) _
      exact retN X0 hx (t := .boolean) Bd.returns (by simp) (hb hby d37_17) hr
    · show Q37 p1 h0 n0 _ s₁.heap _
      rw [e0]
      exact ⟨by simp only [own_hi, if_pos hc2], N0, rfl⟩
  · have K3 : ∀ t, Steps p.tables e below (s₁.setTop (mkF m 9 #[.val (.int p1)] [(.int (56320 : Int32)), (.int p1)])) t → Steps p.tables e below G t := by
      intro t k
      refine K1 t ?_
      refine XS.icmpNo X0.here hx rfl (hb hby d37_3) rfl (flt hc2).1 ?_
      refine XS.iloadN X0.here hx rfl (hb hby d37_6) rfl ?_
      refine X0.ldcInt hx hown (mvT hZ (hw _ (List.mem_of_getElem? (i := 167) rfl))) (g := (mkF m 7 #[.val (.int p1)] [(.int p1)])) rfl (hb hby d37_7) _ ?_
      exact k
    by_cases hc4 : p1 < (56320 : Int32)
    · obtain ⟨fs, hr, hrun, hended, hW, hsame⟩ := X0.leave (v := some (.int (1 : Int32))) (fun h => by rw [Bd.returns] at h; cases h)
      have KF := K3
      rw [hG] at KF
      refine ⟨_, _, KF _ ?_, hrun, hended, _, _, rfl, ?_, ⟨_, rfl⟩, hW, hsame.mono (by decide) (by decide)⟩
      · refine XS.icmpNo X0.here hx rfl (hb hby d37_9) rfl (tlt hc4).2.1 ?_
        refine XS.iconst X0.here hx rfl (hb hby d37_12) ?_
        refine XS.goto X0.here hx rfl (pc0 := 13) (pc' := 17) rfl (hb hby d37_13) (by decide) (by decide) ?_
        show Steps p.tables e below (s₁.setTop (mkF m 17 #[.val (.int p1)] [(.int (1 : Int32))])) _
        exact retN X0 hx (t := .boolean) Bd.returns (by simp) (hb hby d37_17) hr
      · show Q37 p1 h0 n0 _ s₁.heap _
        rw [e0]
        exact ⟨by simp only [own_hi, if_neg hc2, if_pos hc4], N0, rfl⟩
    · obtain ⟨fs, hr, hrun, hended, hW, hsame⟩ := X0.leave (v := some (.int (0 : Int32))) (fun h => by rw [Bd.returns] at h; cases h)
      have KF := K3
      rw [hG] at KF
      refine ⟨_, _, KF _ ?_, hrun, hended, _, _, rfl, ?_, ⟨_, rfl⟩, hW, hsame.mono (by decide) (by decide)⟩
      · refine XS.icmpYes X0.here hx rfl (pc0 := 9) (pc' := 16) rfl (hb hby d37_9) rfl (flt hc4).2.1 (by decide) (by decide) ?_
        refine XS.iconst X0.here hx rfl (hb hby d37_16) ?_
        show Steps p.tables e below (s₁.setTop (mkF m 17 #[.val (.int p1)] [(.int (0 : Int32))])) _
        exact retN X0 hx (t := .boolean) Bd.returns (by simp) (hb hby d37_17) hr
      · show Q37 p1 h0 n0 _ s₁.heap _
        rw [e0]
        exact ⟨by simp only [own_hi, if_neg hc2, if_neg hc4], N0, rfl⟩
def Q39 (p1 : Int32) (h0 : Heap) (n0 : Nat) (v : Option Value) (h : Heap) (L : List Loc) : Prop := v = some (.int (own_lo p1)) ∧ Fr n0 L ∧ h = h0
theorem d39_0 : decode jdk_89_method_15_code 0 = .ok (.iload_n 0, 1) := by decide +kernel
theorem d39_1 : decode jdk_89_method_15_code 1 = .ok (.ldc 76, 2) := by decide +kernel
theorem d39_3 : decode jdk_89_method_15_code 3 = .ok (.if_icmp .lt 13, 3) := by decide +kernel
theorem d39_6 : decode jdk_89_method_15_code 6 = .ok (.iload_n 0, 1) := by decide +kernel
theorem d39_7 : decode jdk_89_method_15_code 7 = .ok (.ldc 77, 2) := by decide +kernel
theorem d39_9 : decode jdk_89_method_15_code 9 = .ok (.if_icmp .ge 7, 3) := by decide +kernel
theorem d39_12 : decode jdk_89_method_15_code 12 = .ok (.iconst 1, 1) := by decide +kernel
theorem d39_13 : decode jdk_89_method_15_code 13 = .ok (.goto 4, 3) := by decide +kernel
theorem d39_16 : decode jdk_89_method_15_code 16 = .ok (.iconst 0, 1) := by decide +kernel
theorem d39_17 : decode jdk_89_method_15_code 17 = .ok (.ireturn, 1) := by decide +kernel
theorem ef_rm39 (m : MethodId) (x0 : Int32) : entryFrame m #[(.int x0)] 1 = mkF m 0 #[.val (.int x0)] [] := by first | (simp [entryFrame, mkF, argsToLocals, Value.category]; done) | rfl
set_option maxRecDepth 65536 in
set_option maxHeartbeats 40000000 in
theorem rm39 (l : Launch) (Z : State) (a0 : Array Value) (hw : ∀ d ∈ tables_1, d.before a0 Z = true) (ws : List Jvm.Cond) (p1 : Int32) (h0 : Heap) (n0 : Nat) (Z0 : n0 ≤ h0.size) :
    MetFree l (⟨"java/lang/Character", "isLowSurrogate", "(C)Z"⟩ : MethodName) (head1 (Jvm.Cond.code (⟨"java/lang/Character", "isLowSurrogate", "(C)Z"⟩ : MethodName) jdk_89_method_15_code 1 (some .boolean) :: ws) ({ frames := 0, cells := 0, slots := 0, locals := 0 } : Room)) (fun a U => a = #[(.int p1)] ∧ Z.Warmed39 U.vm ∧ U.heap = h0) (fun _ _ _ _ _ => True) (fun _ U o U' => ∃ v L, o = .returned v ∧ Q39 p1 h0 n0 v U'.heap L ∧ FrameEnd U o U' L ({ frames := 0, cells := 0, slots := 0, locals := 0 } : Room).cells ({ frames := 0, cells := 0, slots := 0, locals := 0 } : Room).slots) := by
  refine MetFree.of_bodySF (plainFor_of_name pn_java_lang_Character) hisR ?_
  intro p e s m args below meth c s₁ Bd hml0 hP hK
  obtain ⟨rfl, hZ, hh⟩ := hP
  have hx := Bd.exec
  have hby := Bd.bytes
  have hml : c.maxLocals = 1 := hml0
  have hown : s.vm.findClass "java/lang/Character" = some m.cls := findClass_of_methodNamed Bd.named
  have hnm := (name_of_methodNamed Bd.named Bd.method).1
  have X0 : Stand p l e ({ frames := 0, cells := 0, slots := 0, locals := 0 } : Room) s m #[(.int p1)] below meth c s₁ [] 0 0 := Stand.of_body Bd
  have e0 : s₁.heap = h0 := by rw [← hh, Bd.state]; rfl
  have N0 := Fr.nil n0
  have KP0 : Keep h0 h0 [] := Keep.refl h0 _
  obtain ⟨G, hG⟩ : ∃ G : State, G = s₁.setTop (entryFrame m #[(.int p1)] 1) := ⟨_, rfl⟩
  have pre0 : ∀ t, Steps p.tables e below (s₁.setTop (mkF m 0 #[.val (.int p1)] [])) t → Steps p.tables e below G t := fun t k => hG ▸ castTop (ef_rm39 m p1) k
  have K1 : ∀ t, Steps p.tables e below (s₁.setTop (mkF m 3 #[.val (.int p1)] [(.int (56320 : Int32)), (.int p1)])) t → Steps p.tables e below G t := by
    intro t k
    refine pre0 t ?_
    refine XS.iloadN X0.here hx rfl (hb hby d39_0) rfl ?_
    refine X0.ldcInt hx hown (mvT hZ (hw _ (List.mem_of_getElem? (i := 167) rfl))) (g := (mkF m 1 #[.val (.int p1)] [(.int p1)])) rfl (hb hby d39_1) _ ?_
    exact k
  by_cases hc2 : p1 < (56320 : Int32)
  · obtain ⟨fs, hr, hrun, hended, hW, hsame⟩ := X0.leave (v := some (.int (0 : Int32))) (fun h => by rw [Bd.returns] at h; cases h)
    have KF := K1
    rw [hG] at KF
    refine ⟨_, _, KF _ ?_, hrun, hended, _, _, rfl, ?_, ⟨_, rfl⟩, hW, hsame.mono (by decide) (by decide)⟩
    · refine XS.icmpYes X0.here hx rfl (pc0 := 3) (pc' := 16) rfl (hb hby d39_3) rfl (tlt hc2).1 (by decide) (by decide) ?_
      refine XS.iconst X0.here hx rfl (hb hby d39_16) ?_
      show Steps p.tables e below (s₁.setTop (mkF m 17 #[.val (.int p1)] [(.int (0 : Int32))])) _
      exact retN X0 hx (t := .boolean) Bd.returns (by simp) (hb hby d39_17) hr
    · show Q39 p1 h0 n0 _ s₁.heap _
      rw [e0]
      exact ⟨by simp only [own_lo, if_pos hc2], N0, rfl⟩
  · have K3 : ∀ t, Steps p.tables e below (s₁.setTop (mkF m 9 #[.val (.int p1)] [(.int (57344 : Int32)), (.int p1)])) t → Steps p.tables e below G t := by
      intro t k
      refine K1 t ?_
      refine XS.icmpNo X0.here hx rfl (hb hby d39_3) rfl (flt hc2).1 ?_
      refine XS.iloadN X0.here hx rfl (hb hby d39_6) rfl ?_
      refine X0.ldcInt hx hown (mvT hZ (hw _ (List.mem_of_getElem? (i := 175) rfl))) (g := (mkF m 7 #[.val (.int p1)] [(.int p1)])) rfl (hb hby d39_7) _ ?_
      exact k
    by_cases hc4 : p1 < (57344 : Int32)
    · obtain ⟨fs, hr, hrun, hended, hW, hsame⟩ := X0.leave (v := some (.int (1 : Int32))) (fun h => by rw [Bd.returns] at h; cases h)
      have KF := K3
      rw [hG] at KF
      refine ⟨_, _, KF _ ?_, hrun, hended, _, _, rfl, ?_, ⟨_, rfl⟩, hW, hsame.mono (by decide) (by decide)⟩
      · refine XS.icmpNo X0.here hx rfl (hb hby d39_9) rfl (tlt hc4).2.1 ?_
        refine XS.iconst X0.here hx rfl (hb hby d39_12) ?_
        refine XS.goto X0.here hx rfl (pc0 := 13) (pc' := 17) rfl (hb hby d39_13) (by decide) (by decide) ?_
        show Steps p.tables e below (s₁.setTop (mkF m 17 #[.val (.int p1)] [(.int (1 : Int32))])) _
        exact retN X0 hx (t := .boolean) Bd.returns (by simp) (hb hby d39_17) hr
      · show Q39 p1 h0 n0 _ s₁.heap _
        rw [e0]
        exact ⟨by simp only [own_lo, if_neg hc2, if_pos hc4], N0, rfl⟩
    · obtain ⟨fs, hr, hrun, hended, hW, hsame⟩ := X0.leave (v := some (.int (0 : Int32))) (fun h => by rw [Bd.returns] at h; cases h)
      have KF := K3
      rw [hG] at KF
      refine ⟨_, _, KF _ ?_, hrun, hended, _, _, rfl, ?_, ⟨_, rfl⟩, hW, hsame.mono (by decide) (by decide)⟩
      · refine XS.icmpYes X0.here hx rfl (pc0 := 9) (pc' := 16) rfl (hb hby d39_9) rfl (flt hc4).2.1 (by decide) (by decide) ?_
        refine XS.iconst X0.here hx rfl (hb hby d39_16) ?_
        show Steps p.tables e below (s₁.setTop (mkF m 17 #[.val (.int p1)] [(.int (0 : Int32))])) _
        exact retN X0 hx (t := .boolean) Bd.returns (by simp) (hb hby d39_17) hr
      · show Q39 p1 h0 n0 _ s₁.heap _
        rw [e0]
        exact ⟨by simp only [own_lo, if_neg hc2, if_neg hc4], N0, rfl⟩
def Q35 (a1 : Addr) (p2 p3 : Int32) (k1 : ClassId) (z : Int32) (vs : List Value) (f : Nat → Int32) (h0 : Heap) (n0 : Nat) (v : Option Value) (h : Heap) (L : List Loc) : Prop := v = some (.int (own_F f p2 p3)) ∧ Fr n0 L ∧ h = h0
theorem d35_0 : decode method_6_code 0 = .ok (.iload_n 2, 1) := by decide +kernel
theorem d35_1 : decode method_6_code 1 = .ok (.ifCond .lt 8, 3) := by decide +kernel
theorem d35_4 : decode method_6_code 4 = .ok (.iload_n 2, 1) := by decide +kernel
theorem d35_5 : decode method_6_code 5 = .ok (.iload_n 1, 1) := by decide +kernel
theorem d35_6 : decode method_6_code 6 = .ok (.if_icmp .lt 5, 3) := by decide +kernel
theorem d35_9 : decode method_6_code 9 = .ok (.iconst (-1), 1) := by decide +kernel
theorem d35_10 : decode method_6_code 10 = .ok (.ireturn, 1) := by decide +kernel
theorem d35_11 : decode method_6_code 11 = .ok (.aload_n 0, 1) := by decide +kernel
theorem d35_12 : decode method_6_code 12 = .ok (.iload_n 2, 1) := by decide +kernel
theorem d35_13 : decode method_6_code 13 = .ok (.caload, 1) := by decide +kernel
theorem d35_14 : decode method_6_code 14 = .ok (.invokestatic 47, 3) := by decide +kernel
theorem d35_17 : decode method_6_code 17 = .ok (.ifCond .eq 25, 3) := by decide +kernel
theorem d35_20 : decode method_6_code 20 = .ok (.iload_n 2, 1) := by decide +kernel
theorem d35_21 : decode method_6_code 21 = .ok (.iconst 1, 1) := by decide +kernel
theorem d35_22 : decode method_6_code 22 = .ok (.iadd, 1) := by decide +kernel
theorem d35_23 : decode method_6_code 23 = .ok (.iload_n 1, 1) := by decide +kernel
theorem d35_24 : decode method_6_code 24 = .ok (.if_icmp .ge 18, 3) := by decide +kernel
theorem d35_27 : decode method_6_code 27 = .ok (.aload_n 0, 1) := by decide +kernel
theorem d35_28 : decode method_6_code 28 = .ok (.iload_n 2, 1) := by decide +kernel
theorem d35_29 : decode method_6_code 29 = .ok (.iconst 1, 1) := by decide +kernel
theorem d35_30 : decode method_6_code 30 = .ok (.iadd, 1) := by decide +kernel
theorem d35_31 : decode method_6_code 31 = .ok (.caload, 1) := by decide +kernel
theorem d35_32 : decode method_6_code 32 = .ok (.invokestatic 51, 3) := by decide +kernel
theorem d35_35 : decode method_6_code 35 = .ok (.ifCond .eq 7, 3) := by decide +kernel
theorem d35_38 : decode method_6_code 38 = .ok (.iload_n 2, 1) := by decide +kernel
theorem d35_39 : decode method_6_code 39 = .ok (.iconst 2, 1) := by decide +kernel
theorem d35_40 : decode method_6_code 40 = .ok (.iadd, 1) := by decide +kernel
theorem d35_41 : decode method_6_code 41 = .ok (.ireturn, 1) := by decide +kernel
theorem d35_42 : decode method_6_code 42 = .ok (.iload_n 2, 1) := by decide +kernel
theorem d35_43 : decode method_6_code 43 = .ok (.iconst 1, 1) := by decide +kernel
theorem d35_44 : decode method_6_code 44 = .ok (.iadd, 1) := by decide +kernel
theorem d35_45 : decode method_6_code 45 = .ok (.ireturn, 1) := by decide +kernel
theorem pd_22 : parseMethodDescriptor "(C)Z" = some ⟨[.char], some .boolean⟩ := by decide +kernel
theorem ef_rm35 (m : MethodId) (x0 : Addr) (x1 : Int32) (x2 : Int32) : entryFrame m #[(.ref x0), (.int x1), (.int x2)] 3 = mkF m 0 #[.val (.ref x0), .val (.int x1), .val (.int x2)] [] := by first | (simp [entryFrame, mkF, argsToLocals, Value.category]; done) | rfl
set_option maxRecDepth 65536 in
set_option maxHeartbeats 40000000 in
theorem rm35 (l : Launch) (Z : State) (a0 : Array Value) (hw : ∀ d ∈ tables_1, d.before a0 Z = true) (ws : List Jvm.Cond) (a1 : Addr) (p2 p3 : Int32) (k1 : ClassId) (z : Int32) (vs : List Value) (f : Nat → Int32) (h0 : Heap) (n0 : Nat) (Z0 : n0 ≤ h0.size) (V1 : Arv Z h0 a1 k1 .char z vs (Value.int (0 : Int32))) (hf : ∀ j : Nat, j < 4 → vs.getD j (Value.int (0 : Int32)) = .int (f j)) (hz : ¬ z < 4) (hn : p2.toInt ≤ 4) :
    MetFree l (⟨"org/arborlog/pattern/LineTextOffsetByCodePointsPinLaw", "fwd", "([CII)I"⟩ : MethodName) (head1 (Jvm.Cond.code (⟨"org/arborlog/pattern/LineTextOffsetByCodePointsPinLaw", "fwd", "([CII)I"⟩ : MethodName) method_6_code 3 (some .int) :: ws) ({ frames := 1, cells := 0, slots := 0, locals := 12 } : Room)) (fun a U => a = #[(.ref a1), (.int p2), (.int p3)] ∧ Z.Warmed39 U.vm ∧ U.heap = h0) (fun _ _ _ _ _ => True) (fun _ U o U' => ∃ v L, o = .returned v ∧ Q35 a1 p2 p3 k1 z vs f h0 n0 v U'.heap L ∧ FrameEnd U o U' L ({ frames := 1, cells := 0, slots := 0, locals := 12 } : Room).cells ({ frames := 1, cells := 0, slots := 0, locals := 12 } : Room).slots) := by
  refine MetFree.of_bodySF (plainFor_of_name pn_org_arborlog_pattern_LineTextOffsetByCodePointsPinLaw) hisR ?_
  intro p e s m args below meth c s₁ Bd hml0 hP hK
  obtain ⟨rfl, hZ, hh⟩ := hP
  have hx := Bd.exec
  have hby := Bd.bytes
  have hml : c.maxLocals = 3 := hml0
  have hown : s.vm.findClass "org/arborlog/pattern/LineTextOffsetByCodePointsPinLaw" = some m.cls := findClass_of_methodNamed Bd.named
  have hnm := (name_of_methodNamed Bd.named Bd.method).1
  have X0 : Stand p l e ({ frames := 1, cells := 0, slots := 0, locals := 12 } : Room) s m #[(.ref a1), (.int p2), (.int p3)] below meth c s₁ [] 0 0 := Stand.of_body Bd
  have e0 : s₁.heap = h0 := by rw [← hh, Bd.state]; rfl
  have N0 := Fr.nil n0
  have KP0 : Keep h0 h0 [] := Keep.refl h0 _
  obtain ⟨G, hG⟩ : ∃ G : State, G = s₁.setTop (entryFrame m #[(.ref a1), (.int p2), (.int p3)] 3) := ⟨_, rfl⟩
  have pre0 : ∀ t, Steps p.tables e below (s₁.setTop (mkF m 0 #[.val (.ref a1), .val (.int p2), .val (.int p3)] [])) t → Steps p.tables e below G t := fun t k => hG ▸ castTop (ef_rm35 m a1 p2 p3) k
  have K1 : ∀ t, Steps p.tables e below (s₁.setTop (mkF m 1 #[.val (.ref a1), .val (.int p2), .val (.int p3)] [(.int p3)])) t → Steps p.tables e below G t := by
    intro t k
    refine pre0 t ?_
    refine XS.iloadN X0.here hx rfl (hb hby d35_0) rfl ?_
    exact k
  by_cases hc2 : p3 < (0 : Int32)
  · obtain ⟨fs, hr, hrun, hended, hW, hsame⟩ := X0.leave (v := some (.int (-1 : Int32))) (fun h => by rw [Bd.returns] at h; cases h)
    have KF := K1
    rw [hG] at KF
    refine ⟨_, _, KF _ ?_, hrun, hended, _, _, rfl, ?_, ⟨_, rfl⟩, hW, hsame.mono (by decide) (by decide)⟩
    · refine XS.ifYes X0.here hx rfl (pc0 := 1) (pc' := 9) rfl (hb hby d35_1) rfl ((if0 _ _).trans (tlt hc2).1) (by decide) (by decide) ?_
      refine XS.iconst X0.here hx rfl (hb hby d35_9) ?_
      show Steps p.tables e below (s₁.setTop (mkF m 10 #[.val (.ref a1), .val (.int p2), .val (.int p3)] [(.int (-1 : Int32))])) _
      exact own_retI X0 hx Bd.returns (hb hby d35_10) hr
    · show Q35 a1 p2 p3 k1 z vs f h0 n0 _ s₁.heap _
      rw [e0]
      exact ⟨by simp only [own_F, if_pos hc2], N0, rfl⟩
  · have K3 : ∀ t, Steps p.tables e below (s₁.setTop (mkF m 6 #[.val (.ref a1), .val (.int p2), .val (.int p3)] [(.int p2), (.int p3)])) t → Steps p.tables e below G t := by
      intro t k
      refine K1 t ?_
      refine XS.ifNo X0.here hx rfl (hb hby d35_1) rfl ((if0 _ _).trans (flt hc2).1) ?_
      refine XS.iloadN X0.here hx rfl (hb hby d35_4) rfl ?_
      refine XS.iloadN X0.here hx rfl (hb hby d35_5) rfl ?_
      exact k
    by_cases hc4 : p3 < p2
    · have K5 : ∀ t, Steps p.tables e below (s₁.setTop (mkF m 13 #[.val (.ref a1), .val (.int p2), .val (.int p3)] [(.int p3), (.ref a1)])) t → Steps p.tables e below G t := by
        intro t k
        refine K3 t ?_
        refine XS.icmpYes X0.here hx rfl (pc0 := 6) (pc' := 11) rfl (hb hby d35_6) rfl (tlt hc4).1 (by decide) (by decide) ?_
        refine XS.aloadN X0.here hx rfl (hb hby d35_11) rfl rfl ?_
        refine XS.iloadN X0.here hx rfl (hb hby d35_12) rfl ?_
        exact k
      obtain ⟨cl6, Ar6, qc6, S6, M6, Ha6, Ga6⟩ := id V1
      have hin6 : ¬ (p3 < 0 ∨ cl6.slots.size ≤ (p3).toNatClampNeg) := inb_of S6 (own_at hc2 hc4 hn hz).1
      have hat6 : cl6.slots[(p3).toNatClampNeg]? = some (.int (f p3.toNatClampNeg)) := Ha6.at hin6 (hf _ (own_at hc2 hc4 hn hz).2)
      have K7 : ∀ t, Steps p.tables e below (s₁.setTop (mkF m 14 #[.val (.ref a1), .val (.int p2), .val (.int p3)] [(.int (f p3.toNatClampNeg))])) t → Steps p.tables e below G t := fun t k => K5 t (X0.caload hx (j := p3) (v := (.int (f p3.toNatClampNeg))) (by rw [e0]; exact Ar6.1) (State.isArrayOf_alike hZ.alike Ar6.2.1) Ar6.2.2 hin6 hat6 (g := (mkF m 13 #[.val (.ref a1), .val (.int p2), .val (.int p3)] [(.int p3), (.ref a1)])) rfl rfl (hb hby d35_13) _ k)
      obtain ⟨_, _, ⟨T8, L8, kk8, nn8⟩, -, X8, ⟨Lc8, hQ8, lq8, yq8, zq8⟩, st8⟩ := Jvm.LawKit.callS X0 hx (y := (⟨"org/arborlog/pattern/LineTextOffsetByCodePointsPinLaw", "isHigh", "(C)Z"⟩ : MethodName)) hown (mvT hZ (hw _ (List.mem_of_getElem? (i := 159) rfl))) (mvT hZ (hw _ (List.mem_of_getElem? (i := 160) rfl))) (mvT hZ (hw _ (List.mem_of_getElem? (i := 3) rfl))) (mvT hZ (hw _ (List.mem_of_getElem? (i := 161) rfl))) (by decide) (backOf (W := 0) (rm36 l Z a0 hw [] (f p3.toNatClampNeg) h0 n0 Z0 ) hZ (hw _ (List.mem_of_getElem? (i := 161) rfl)) (hw _ (List.mem_of_getElem? (i := 3) rfl)) (by decide) (by decide)) (g := (mkF m 14 #[.val (.ref a1), .val (.int p2), .val (.int p3)] [(.int (f p3.toNatClampNeg))])) rfl (by rw [hml]; rfl) (argsL := [(.int (f p3.toNatClampNeg))]) (rest := []) (lenOf pd_22 rfl) rfl (by show 2 * 0 + _ ≤ _; exact Nat.le_of_eq rfl) (hb hby d35_14) (fun _ _ => ⟨rfl, e0, (by decide : 0 + 0 ≤ _), (by decide : 0 + 0 ≤ _)⟩)
      dsimp only [Pt.U, Pt.locs, Pt.cells, Pt.slots] at X8 lq8 yq8 zq8 st8 hQ8
      subst lq8 yq8 zq8
      obtain ⟨rfl, Nq8, e8⟩ := hQ8
      have N9 := Fr.app N0 Nq8
      have K10 : ∀ t, Steps p.tables e below (T8.setTop (mkF m 17 #[.val (.ref a1), .val (.int p2), .val (.int p3)] [(.int (own_hi (f p3.toNatClampNeg)))])) t → Steps p.tables e below G t := fun t k => K7 t (st8 _ k)
      by_cases hc11 : (own_hi (f p3.toNatClampNeg)) = (0 : Int32)
      · obtain ⟨fs, hr, hrun, hended, hW, hsame⟩ := X8.leave (v := some (.int (p3 + (1 : Int32)))) (fun h => by rw [Bd.returns] at h; cases h)
        have KF := K10
        rw [hG] at KF
        refine ⟨_, _, KF _ ?_, hrun, hended, _, _, rfl, ?_, ⟨_, rfl⟩, hW, hsame.mono (by decide) (by decide)⟩
        · refine XS.ifYes X8.here hx rfl (pc0 := 17) (pc' := 42) rfl (hb hby d35_17) rfl ((if0 _ _).trans (teq hc11).1) (by decide) (by decide) ?_
          refine XS.iloadN X8.here hx rfl (hb hby d35_42) rfl ?_
          refine XS.iconst X8.here hx rfl (hb hby d35_43) ?_
          refine XS.iadd X8.here hx rfl (hb hby d35_44) rfl ?_
          show Steps p.tables e below (T8.setTop (mkF m 45 #[.val (.ref a1), .val (.int p2), .val (.int p3)] [(.int (p3 + (1 : Int32)))])) _
          exact own_retI X8 hx Bd.returns (hb hby d35_45) hr
        · show Q35 a1 p2 p3 k1 z vs f h0 n0 _ T8.heap _
          rw [e8]
          exact ⟨by simp only [own_F, if_neg hc2, if_pos hc4, if_pos hc11], N9, rfl⟩
      · have K12 : ∀ t, Steps p.tables e below (T8.setTop (mkF m 24 #[.val (.ref a1), .val (.int p2), .val (.int p3)] [(.int p2), (.int (p3 + (1 : Int32)))])) t → Steps p.tables e below G t := by
          intro t k
          refine K10 t ?_
          refine XS.ifNo X8.here hx rfl (hb hby d35_17) rfl ((if0 _ _).trans (feq hc11).1) ?_
          refine XS.iloadN X8.here hx rfl (hb hby d35_20) rfl ?_
          refine XS.iconst X8.here hx rfl (hb hby d35_21) ?_
          refine XS.iadd X8.here hx rfl (hb hby d35_22) rfl ?_
          refine XS.iloadN X8.here hx rfl (hb hby d35_23) rfl ?_
          exact k
        by_cases hc13 : (p3 + (1 : Int32)) < p2
        · have K14 : ∀ t, Steps p.tables e below (T8.setTop (mkF m 31 #[.val (.ref a1), .val (.int p2), .val (.int p3)] [(.int (p3 + (1 : Int32))), (.ref a1)])) t → Steps p.tables e below G t := by
            intro t k
            refine K12 t ?_
            refine XS.icmpNo X8.here hx rfl (hb hby d35_24) rfl (tlt hc13).2.1 ?_
            refine XS.aloadN X8.here hx rfl (hb hby d35_27) rfl rfl ?_
            refine XS.iloadN X8.here hx rfl (hb hby d35_28) rfl ?_
            refine XS.iconst X8.here hx rfl (hb hby d35_29) ?_
            refine XS.iadd X8.here hx rfl (hb hby d35_30) rfl ?_
            exact k
          obtain ⟨cl15, Ar15, qc15, S15, M15, Ha15, Ga15⟩ := id V1
          have hin15 : ¬ ((p3 + (1 : Int32)) < 0 ∨ cl15.slots.size ≤ ((p3 + (1 : Int32))).toNatClampNeg) := inb_of S15 (own_at (own_p1 hc2 hc4 hn) hc13 hn hz).1
          have hat15 : cl15.slots[((p3 + (1 : Int32))).toNatClampNeg]? = some (.int (f (p3 + (1 : Int32)).toNatClampNeg)) := Ha15.at hin15 (hf _ (own_at (own_p1 hc2 hc4 hn) hc13 hn hz).2)
          have K16 : ∀ t, Steps p.tables e below (T8.setTop (mkF m 32 #[.val (.ref a1), .val (.int p2), .val (.int p3)] [(.int (f (p3 + (1 : Int32)).toNatClampNeg))])) t → Steps p.tables e below G t := fun t k => K14 t (X8.caload hx (j := (p3 + (1 : Int32))) (v := (.int (f (p3 + (1 : Int32)).toNatClampNeg))) (by rw [e8]; exact Ar15.1) (State.isArrayOf_alike hZ.alike Ar15.2.1) Ar15.2.2 hin15 hat15 (g := (mkF m 31 #[.val (.ref a1), .val (.int p2), .val (.int p3)] [(.int (p3 + (1 : Int32))), (.ref a1)])) rfl rfl (hb hby d35_31) _ k)
          obtain ⟨_, _, ⟨T17, L17, kk17, nn17⟩, -, X17, ⟨Lc17, hQ17, lq17, yq17, zq17⟩, st17⟩ := Jvm.LawKit.callS X8 hx (y := (⟨"org/arborlog/pattern/LineTextOffsetByCodePointsPinLaw", "isLow", "(C)Z"⟩ : MethodName)) hown (mvT hZ (hw _ (List.mem_of_getElem? (i := 168) rfl))) (mvT hZ (hw _ (List.mem_of_getElem? (i := 169) rfl))) (mvT hZ (hw _ (List.mem_of_getElem? (i := 3) rfl))) (mvT hZ (hw _ (List.mem_of_getElem? (i := 170) rfl))) (by decide) (backOf (W := 0) (rm38 l Z a0 hw [] (f (p3 + (1 : Int32)).toNatClampNeg) h0 n0 Z0 ) hZ (hw _ (List.mem_of_getElem? (i := 170) rfl)) (hw _ (List.mem_of_getElem? (i := 3) rfl)) (by decide) (by decide)) (g := (mkF m 32 #[.val (.ref a1), .val (.int p2), .val (.int p3)] [(.int (f (p3 + (1 : Int32)).toNatClampNeg))])) rfl (by rw [hml]; rfl) (argsL := [(.int (f (p3 + (1 : Int32)).toNatClampNeg))]) (rest := []) (lenOf pd_22 rfl) rfl (by show 2 * 0 + _ ≤ _; exact Nat.le_of_eq rfl) (hb hby d35_32) (fun _ _ => ⟨rfl, e8, (by decide : 0 + 0 ≤ _), (by decide : 0 + 0 ≤ _)⟩)
          dsimp only [Pt.U, Pt.locs, Pt.cells, Pt.slots] at X17 lq17 yq17 zq17 st17 hQ17
          subst lq17 yq17 zq17
          obtain ⟨rfl, Nq17, e17⟩ := hQ17
          have N18 := Fr.app N9 Nq17
          have K19 : ∀ t, Steps p.tables e below (T17.setTop (mkF m 35 #[.val (.ref a1), .val (.int p2), .val (.int p3)] [(.int (own_lo (f (p3 + (1 : Int32)).toNatClampNeg)))])) t → Steps p.tables e below G t := fun t k => K16 t (st17 _ k)
          by_cases hc20 : (own_lo (f (p3 + (1 : Int32)).toNatClampNeg)) = (0 : Int32)
          · obtain ⟨fs, hr, hrun, hended, hW, hsame⟩ := X17.leave (v := some (.int (p3 + (1 : Int32)))) (fun h => by rw [Bd.returns] at h; cases h)
            have KF := K19
            rw [hG] at KF
            refine ⟨_, _, KF _ ?_, hrun, hended, _, _, rfl, ?_, ⟨_, rfl⟩, hW, hsame.mono (by decide) (by decide)⟩
            · refine XS.ifYes X17.here hx rfl (pc0 := 35) (pc' := 42) rfl (hb hby d35_35) rfl ((if0 _ _).trans (teq hc20).1) (by decide) (by decide) ?_
              refine XS.iloadN X17.here hx rfl (hb hby d35_42) rfl ?_
              refine XS.iconst X17.here hx rfl (hb hby d35_43) ?_
              refine XS.iadd X17.here hx rfl (hb hby d35_44) rfl ?_
              show Steps p.tables e below (T17.setTop (mkF m 45 #[.val (.ref a1), .val (.int p2), .val (.int p3)] [(.int (p3 + (1 : Int32)))])) _
              exact own_retI X17 hx Bd.returns (hb hby d35_45) hr
            · show Q35 a1 p2 p3 k1 z vs f h0 n0 _ T17.heap _
              rw [e17]
              exact ⟨by simp only [own_F, if_neg hc2, if_pos hc4, if_neg hc11, if_pos hc13, if_pos hc20], N18, rfl⟩
          · obtain ⟨fs, hr, hrun, hended, hW, hsame⟩ := X17.leave (v := some (.int (p3 + (2 : Int32)))) (fun h => by rw [Bd.returns] at h; cases h)
            have KF := K19
            rw [hG] at KF
            refine ⟨_, _, KF _ ?_, hrun, hended, _, _, rfl, ?_, ⟨_, rfl⟩, hW, hsame.mono (by decide) (by decide)⟩
            · refine XS.ifNo X17.here hx rfl (hb hby d35_35) rfl ((if0 _ _).trans (feq hc20).1) ?_
              refine XS.iloadN X17.here hx rfl (hb hby d35_38) rfl ?_
              refine XS.iconst X17.here hx rfl (hb hby d35_39) ?_
              refine XS.iadd X17.here hx rfl (hb hby d35_40) rfl ?_
              show Steps p.tables e below (T17.setTop (mkF m 41 #[.val (.ref a1), .val (.int p2), .val (.int p3)] [(.int (p3 + (2 : Int32)))])) _
              exact own_retI X17 hx Bd.returns (hb hby d35_41) hr
            · show Q35 a1 p2 p3 k1 z vs f h0 n0 _ T17.heap _
              rw [e17]
              exact ⟨by simp only [own_F, if_neg hc2, if_pos hc4, if_neg hc11, if_pos hc13, if_neg hc20], N18, rfl⟩
        · obtain ⟨fs, hr, hrun, hended, hW, hsame⟩ := X8.leave (v := some (.int (p3 + (1 : Int32)))) (fun h => by rw [Bd.returns] at h; cases h)
          have KF := K12
          rw [hG] at KF
          refine ⟨_, _, KF _ ?_, hrun, hended, _, _, rfl, ?_, ⟨_, rfl⟩, hW, hsame.mono (by decide) (by decide)⟩
          · refine XS.icmpYes X8.here hx rfl (pc0 := 24) (pc' := 42) rfl (hb hby d35_24) rfl (flt hc13).2.1 (by decide) (by decide) ?_
            refine XS.iloadN X8.here hx rfl (hb hby d35_42) rfl ?_
            refine XS.iconst X8.here hx rfl (hb hby d35_43) ?_
            refine XS.iadd X8.here hx rfl (hb hby d35_44) rfl ?_
            show Steps p.tables e below (T8.setTop (mkF m 45 #[.val (.ref a1), .val (.int p2), .val (.int p3)] [(.int (p3 + (1 : Int32)))])) _
            exact own_retI X8 hx Bd.returns (hb hby d35_45) hr
          · show Q35 a1 p2 p3 k1 z vs f h0 n0 _ T8.heap _
            rw [e8]
            exact ⟨by simp only [own_F, if_neg hc2, if_pos hc4, if_neg hc11, if_neg hc13], N9, rfl⟩
    · obtain ⟨fs, hr, hrun, hended, hW, hsame⟩ := X0.leave (v := some (.int (-1 : Int32))) (fun h => by rw [Bd.returns] at h; cases h)
      have KF := K3
      rw [hG] at KF
      refine ⟨_, _, KF _ ?_, hrun, hended, _, _, rfl, ?_, ⟨_, rfl⟩, hW, hsame.mono (by decide) (by decide)⟩
      · refine XS.icmpNo X0.here hx rfl (hb hby d35_6) rfl (flt hc4).1 ?_
        refine XS.iconst X0.here hx rfl (hb hby d35_9) ?_
        show Steps p.tables e below (s₁.setTop (mkF m 10 #[.val (.ref a1), .val (.int p2), .val (.int p3)] [(.int (-1 : Int32))])) _
        exact own_retI X0 hx Bd.returns (hb hby d35_10) hr
      · show Q35 a1 p2 p3 k1 z vs f h0 n0 _ s₁.heap _
        rw [e0]
        exact ⟨by simp only [own_F, if_neg hc2, if_neg hc4], N0, rfl⟩
def Q2 (a1 : Addr) (p2 : Int32) (k1 : ClassId) (z : Int32) (vs : List Value) (f : Nat → Int32) (h0 : Heap) (n0 : Nat) (v : Option Value) (h : Heap) (L : List Loc) : Prop := v = some (.int (own_B f p2)) ∧ Fr n0 L ∧ h = h0
theorem d2_0 : decode method_7_code 0 = .ok (.iload_n 1, 1) := by decide +kernel
theorem d2_1 : decode method_7_code 1 = .ok (.ifCond .gt 5, 3) := by decide +kernel
theorem d2_4 : decode method_7_code 4 = .ok (.iconst (-1), 1) := by decide +kernel
theorem d2_5 : decode method_7_code 5 = .ok (.ireturn, 1) := by decide +kernel
theorem d2_6 : decode method_7_code 6 = .ok (.aload_n 0, 1) := by decide +kernel
theorem d2_7 : decode method_7_code 7 = .ok (.iload_n 1, 1) := by decide +kernel
theorem d2_8 : decode method_7_code 8 = .ok (.iconst 1, 1) := by decide +kernel
theorem d2_9 : decode method_7_code 9 = .ok (.isub, 1) := by decide +kernel
theorem d2_10 : decode method_7_code 10 = .ok (.caload, 1) := by decide +kernel
theorem d2_11 : decode method_7_code 11 = .ok (.invokestatic 51, 3) := by decide +kernel
theorem d2_14 : decode method_7_code 14 = .ok (.ifCond .eq 24, 3) := by decide +kernel
theorem d2_17 : decode method_7_code 17 = .ok (.iload_n 1, 1) := by decide +kernel
theorem d2_18 : decode method_7_code 18 = .ok (.iconst 1, 1) := by decide +kernel
theorem d2_19 : decode method_7_code 19 = .ok (.isub, 1) := by decide +kernel
theorem d2_20 : decode method_7_code 20 = .ok (.ifCond .le 18, 3) := by decide +kernel
theorem d2_23 : decode method_7_code 23 = .ok (.aload_n 0, 1) := by decide +kernel
theorem d2_24 : decode method_7_code 24 = .ok (.iload_n 1, 1) := by decide +kernel
theorem d2_25 : decode method_7_code 25 = .ok (.iconst 2, 1) := by decide +kernel
theorem d2_26 : decode method_7_code 26 = .ok (.isub, 1) := by decide +kernel
theorem d2_27 : decode method_7_code 27 = .ok (.caload, 1) := by decide +kernel
theorem d2_28 : decode method_7_code 28 = .ok (.invokestatic 47, 3) := by decide +kernel
theorem d2_31 : decode method_7_code 31 = .ok (.ifCond .eq 7, 3) := by decide +kernel
theorem d2_34 : decode method_7_code 34 = .ok (.iload_n 1, 1) := by decide +kernel
theorem d2_35 : decode method_7_code 35 = .ok (.iconst 2, 1) := by decide +kernel
theorem d2_36 : decode method_7_code 36 = .ok (.isub, 1) := by decide +kernel
theorem d2_37 : decode method_7_code 37 = .ok (.ireturn, 1) := by decide +kernel
theorem d2_38 : decode method_7_code 38 = .ok (.iload_n 1, 1) := by decide +kernel
theorem d2_39 : decode method_7_code 39 = .ok (.iconst 1, 1) := by decide +kernel
theorem d2_40 : decode method_7_code 40 = .ok (.isub, 1) := by decide +kernel
theorem d2_41 : decode method_7_code 41 = .ok (.ireturn, 1) := by decide +kernel
theorem ef_rm2 (m : MethodId) (x0 : Addr) (x1 : Int32) : entryFrame m #[(.ref x0), (.int x1)] 2 = mkF m 0 #[.val (.ref x0), .val (.int x1)] [] := by first | (simp [entryFrame, mkF, argsToLocals, Value.category]; done) | rfl
set_option maxRecDepth 65536 in
set_option maxHeartbeats 40000000 in
theorem rm2 (l : Launch) (Z : State) (a0 : Array Value) (hw : ∀ d ∈ tables_1, d.before a0 Z = true) (ws : List Jvm.Cond) (a1 : Addr) (p2 : Int32) (k1 : ClassId) (z : Int32) (vs : List Value) (f : Nat → Int32) (h0 : Heap) (n0 : Nat) (Z0 : n0 ≤ h0.size) (V1 : Arv Z h0 a1 k1 .char z vs (Value.int (0 : Int32))) (hf : ∀ j : Nat, j < 4 → vs.getD j (Value.int (0 : Int32)) = .int (f j)) (hz : ¬ z < 4) (hn : p2.toInt ≤ 4) :
    MetFree l (⟨"org/arborlog/pattern/LineTextOffsetByCodePointsPinLaw", "back", "([CI)I"⟩ : MethodName) (head1 (Jvm.Cond.code (⟨"org/arborlog/pattern/LineTextOffsetByCodePointsPinLaw", "back", "([CI)I"⟩ : MethodName) method_7_code 2 (some .int) :: ws) ({ frames := 1, cells := 0, slots := 0, locals := 12 } : Room)) (fun a U => a = #[(.ref a1), (.int p2)] ∧ Z.Warmed39 U.vm ∧ U.heap = h0) (fun _ _ _ _ _ => True) (fun _ U o U' => ∃ v L, o = .returned v ∧ Q2 a1 p2 k1 z vs f h0 n0 v U'.heap L ∧ FrameEnd U o U' L ({ frames := 1, cells := 0, slots := 0, locals := 12 } : Room).cells ({ frames := 1, cells := 0, slots := 0, locals := 12 } : Room).slots) := by
  refine MetFree.of_bodySF (plainFor_of_name pn_org_arborlog_pattern_LineTextOffsetByCodePointsPinLaw) hisR ?_
  intro p e s m args below meth c s₁ Bd hml0 hP hK
  obtain ⟨rfl, hZ, hh⟩ := hP
  have hx := Bd.exec
  have hby := Bd.bytes
  have hml : c.maxLocals = 2 := hml0
  have hown : s.vm.findClass "org/arborlog/pattern/LineTextOffsetByCodePointsPinLaw" = some m.cls := findClass_of_methodNamed Bd.named
  have hnm := (name_of_methodNamed Bd.named Bd.method).1
  have X0 : Stand p l e ({ frames := 1, cells := 0, slots := 0, locals := 12 } : Room) s m #[(.ref a1), (.int p2)] below meth c s₁ [] 0 0 := Stand.of_body Bd
  have e0 : s₁.heap = h0 := by rw [← hh, Bd.state]; rfl
  have N0 := Fr.nil n0
  have KP0 : Keep h0 h0 [] := Keep.refl h0 _
  obtain ⟨G, hG⟩ : ∃ G : State, G = s₁.setTop (entryFrame m #[(.ref a1), (.int p2)] 2) := ⟨_, rfl⟩
  have pre0 : ∀ t, Steps p.tables e below (s₁.setTop (mkF m 0 #[.val (.ref a1), .val (.int p2)] [])) t → Steps p.tables e below G t := fun t k => hG ▸ castTop (ef_rm2 m a1 p2) k
  have K1 : ∀ t, Steps p.tables e below (s₁.setTop (mkF m 1 #[.val (.ref a1), .val (.int p2)] [(.int p2)])) t → Steps p.tables e below G t := by
    intro t k
    refine pre0 t ?_
    refine XS.iloadN X0.here hx rfl (hb hby d2_0) rfl ?_
    exact k
  by_cases hc2 : (0 : Int32) < p2
  · have K3 : ∀ t, Steps p.tables e below (s₁.setTop (mkF m 10 #[.val (.ref a1), .val (.int p2)] [(.int (p2 - (1 : Int32))), (.ref a1)])) t → Steps p.tables e below G t := by
      intro t k
      refine K1 t ?_
      refine XS.ifYes X0.here hx rfl (pc0 := 1) (pc' := 6) rfl (hb hby d2_1) rfl ((if0 _ _).trans (tlt hc2).2.2.1) (by decide) (by decide) ?_
      refine XS.aloadN X0.here hx rfl (hb hby d2_6) rfl rfl ?_
      refine XS.iloadN X0.here hx rfl (hb hby d2_7) rfl ?_
      refine XS.iconst X0.here hx rfl (hb hby d2_8) ?_
      refine XS.isub X0.here hx rfl (hb hby d2_9) rfl ?_
      exact k
    obtain ⟨cl4, Ar4, qc4, S4, M4, Ha4, Ga4⟩ := id V1
    have hin4 : ¬ ((p2 - (1 : Int32)) < 0 ∨ cl4.slots.size ≤ ((p2 - (1 : Int32))).toNatClampNeg) := inb_of S4 (own_d1 hc2 hn hz).1
    have hat4 : cl4.slots[((p2 - (1 : Int32))).toNatClampNeg]? = some (.int (f (p2 - (1 : Int32)).toNatClampNeg)) := Ha4.at hin4 (hf _ (own_d1 hc2 hn hz).2)
    have K5 : ∀ t, Steps p.tables e below (s₁.setTop (mkF m 11 #[.val (.ref a1), .val (.int p2)] [(.int (f (p2 - (1 : Int32)).toNatClampNeg))])) t → Steps p.tables e below G t := fun t k => K3 t (X0.caload hx (j := (p2 - (1 : Int32))) (v := (.int (f (p2 - (1 : Int32)).toNatClampNeg))) (by rw [e0]; exact Ar4.1) (State.isArrayOf_alike hZ.alike Ar4.2.1) Ar4.2.2 hin4 hat4 (g := (mkF m 10 #[.val (.ref a1), .val (.int p2)] [(.int (p2 - (1 : Int32))), (.ref a1)])) rfl rfl (hb hby d2_10) _ k)
    obtain ⟨_, _, ⟨T6, L6, kk6, nn6⟩, -, X6, ⟨Lc6, hQ6, lq6, yq6, zq6⟩, st6⟩ := Jvm.LawKit.callS X0 hx (y := (⟨"org/arborlog/pattern/LineTextOffsetByCodePointsPinLaw", "isLow", "(C)Z"⟩ : MethodName)) hown (mvT hZ (hw _ (List.mem_of_getElem? (i := 168) rfl))) (mvT hZ (hw _ (List.mem_of_getElem? (i := 169) rfl))) (mvT hZ (hw _ (List.mem_of_getElem? (i := 3) rfl))) (mvT hZ (hw _ (List.mem_of_getElem? (i := 170) rfl))) (by decide) (backOf (W := 0) (rm38 l Z a0 hw [] (f (p2 - (1 : Int32)).toNatClampNeg) h0 n0 Z0 ) hZ (hw _ (List.mem_of_getElem? (i := 170) rfl)) (hw _ (List.mem_of_getElem? (i := 3) rfl)) (by decide) (by decide)) (g := (mkF m 11 #[.val (.ref a1), .val (.int p2)] [(.int (f (p2 - (1 : Int32)).toNatClampNeg))])) rfl (by rw [hml]; rfl) (argsL := [(.int (f (p2 - (1 : Int32)).toNatClampNeg))]) (rest := []) (lenOf pd_22 rfl) rfl (by show 2 * 0 + _ ≤ _; exact Nat.le_of_eq rfl) (hb hby d2_11) (fun _ _ => ⟨rfl, e0, (by decide : 0 + 0 ≤ _), (by decide : 0 + 0 ≤ _)⟩)
    dsimp only [Pt.U, Pt.locs, Pt.cells, Pt.slots] at X6 lq6 yq6 zq6 st6 hQ6
    subst lq6 yq6 zq6
    obtain ⟨rfl, Nq6, e6⟩ := hQ6
    have N7 := Fr.app N0 Nq6
    have K8 : ∀ t, Steps p.tables e below (T6.setTop (mkF m 14 #[.val (.ref a1), .val (.int p2)] [(.int (own_lo (f (p2 - (1 : Int32)).toNatClampNeg)))])) t → Steps p.tables e below G t := fun t k => K5 t (st6 _ k)
    by_cases hc9 : (own_lo (f (p2 - (1 : Int32)).toNatClampNeg)) = (0 : Int32)
    · obtain ⟨fs, hr, hrun, hended, hW, hsame⟩ := X6.leave (v := some (.int (p2 - (1 : Int32)))) (fun h => by rw [Bd.returns] at h; cases h)
      have KF := K8
      rw [hG] at KF
      refine ⟨_, _, KF _ ?_, hrun, hended, _, _, rfl, ?_, ⟨_, rfl⟩, hW, hsame.mono (by decide) (by decide)⟩
      · refine XS.ifYes X6.here hx rfl (pc0 := 14) (pc' := 38) rfl (hb hby d2_14) rfl ((if0 _ _).trans (teq hc9).1) (by decide) (by decide) ?_
        refine XS.iloadN X6.here hx rfl (hb hby d2_38) rfl ?_
        refine XS.iconst X6.here hx rfl (hb hby d2_39) ?_
        refine XS.isub X6.here hx rfl (hb hby d2_40) rfl ?_
        show Steps p.tables e below (T6.setTop (mkF m 41 #[.val (.ref a1), .val (.int p2)] [(.int (p2 - (1 : Int32)))])) _
        exact own_retI X6 hx Bd.returns (hb hby d2_41) hr
      · show Q2 a1 p2 k1 z vs f h0 n0 _ T6.heap _
        rw [e6]
        exact ⟨by simp only [own_B, if_pos hc2, if_pos hc9], N7, rfl⟩
    · have K10 : ∀ t, Steps p.tables e below (T6.setTop (mkF m 20 #[.val (.ref a1), .val (.int p2)] [(.int (p2 - (1 : Int32)))])) t → Steps p.tables e below G t := by
        intro t k
        refine K8 t ?_
        refine XS.ifNo X6.here hx rfl (hb hby d2_14) rfl ((if0 _ _).trans (feq hc9).1) ?_
        refine XS.iloadN X6.here hx rfl (hb hby d2_17) rfl ?_
        refine XS.iconst X6.here hx rfl (hb hby d2_18) ?_
        refine XS.isub X6.here hx rfl (hb hby d2_19) rfl ?_
        exact k
      by_cases hc11 : (0 : Int32) < (p2 - (1 : Int32))
      · have K12 : ∀ t, Steps p.tables e below (T6.setTop (mkF m 27 #[.val (.ref a1), .val (.int p2)] [(.int (p2 - (2 : Int32))), (.ref a1)])) t → Steps p.tables e below G t := by
          intro t k
          refine K10 t ?_
          refine XS.ifNo X6.here hx rfl (hb hby d2_20) rfl ((if0 _ _).trans (tlt hc11).2.2.2) ?_
          refine XS.aloadN X6.here hx rfl (hb hby d2_23) rfl rfl ?_
          refine XS.iloadN X6.here hx rfl (hb hby d2_24) rfl ?_
          refine XS.iconst X6.here hx rfl (hb hby d2_25) ?_
          refine XS.isub X6.here hx rfl (hb hby d2_26) rfl ?_
          exact k
        obtain ⟨cl13, Ar13, qc13, S13, M13, Ha13, Ga13⟩ := id V1
        have hin13 : ¬ ((p2 - (2 : Int32)) < 0 ∨ cl13.slots.size ≤ ((p2 - (2 : Int32))).toNatClampNeg) := inb_of S13 (own_d2 hc2 hc11 hn hz).1
        have hat13 : cl13.slots[((p2 - (2 : Int32))).toNatClampNeg]? = some (.int (f (p2 - (2 : Int32)).toNatClampNeg)) := Ha13.at hin13 (hf _ (own_d2 hc2 hc11 hn hz).2)
        have K14 : ∀ t, Steps p.tables e below (T6.setTop (mkF m 28 #[.val (.ref a1), .val (.int p2)] [(.int (f (p2 - (2 : Int32)).toNatClampNeg))])) t → Steps p.tables e below G t := fun t k => K12 t (X6.caload hx (j := (p2 - (2 : Int32))) (v := (.int (f (p2 - (2 : Int32)).toNatClampNeg))) (by rw [e6]; exact Ar13.1) (State.isArrayOf_alike hZ.alike Ar13.2.1) Ar13.2.2 hin13 hat13 (g := (mkF m 27 #[.val (.ref a1), .val (.int p2)] [(.int (p2 - (2 : Int32))), (.ref a1)])) rfl rfl (hb hby d2_27) _ k)
        obtain ⟨_, _, ⟨T15, L15, kk15, nn15⟩, -, X15, ⟨Lc15, hQ15, lq15, yq15, zq15⟩, st15⟩ := Jvm.LawKit.callS X6 hx (y := (⟨"org/arborlog/pattern/LineTextOffsetByCodePointsPinLaw", "isHigh", "(C)Z"⟩ : MethodName)) hown (mvT hZ (hw _ (List.mem_of_getElem? (i := 159) rfl))) (mvT hZ (hw _ (List.mem_of_getElem? (i := 160) rfl))) (mvT hZ (hw _ (List.mem_of_getElem? (i := 3) rfl))) (mvT hZ (hw _ (List.mem_of_getElem? (i := 161) rfl))) (by decide) (backOf (W := 0) (rm36 l Z a0 hw [] (f (p2 - (2 : Int32)).toNatClampNeg) h0 n0 Z0 ) hZ (hw _ (List.mem_of_getElem? (i := 161) rfl)) (hw _ (List.mem_of_getElem? (i := 3) rfl)) (by decide) (by decide)) (g := (mkF m 28 #[.val (.ref a1), .val (.int p2)] [(.int (f (p2 - (2 : Int32)).toNatClampNeg))])) rfl (by rw [hml]; rfl) (argsL := [(.int (f (p2 - (2 : Int32)).toNatClampNeg))]) (rest := []) (lenOf pd_22 rfl) rfl (by show 2 * 0 + _ ≤ _; exact Nat.le_of_eq rfl) (hb hby d2_28) (fun _ _ => ⟨rfl, e6, (by decide : 0 + 0 ≤ _), (by decide : 0 + 0 ≤ _)⟩)
        dsimp only [Pt.U, Pt.locs, Pt.cells, Pt.slots] at X15 lq15 yq15 zq15 st15 hQ15
        subst lq15 yq15 zq15
        obtain ⟨rfl, Nq15, e15⟩ := hQ15
        have N16 := Fr.app N7 Nq15
        have K17 : ∀ t, Steps p.tables e below (T15.setTop (mkF m 31 #[.val (.ref a1), .val (.int p2)] [(.int (own_hi (f (p2 - (2 : Int32)).toNatClampNeg)))])) t → Steps p.tables e below G t := fun t k => K14 t (st15 _ k)
        by_cases hc18 : (own_hi (f (p2 - (2 : Int32)).toNatClampNeg)) = (0 : Int32)
        · obtain ⟨fs, hr, hrun, hended, hW, hsame⟩ := X15.leave (v := some (.int (p2 - (1 : Int32)))) (fun h => by rw [Bd.returns] at h; cases h)
          have KF := K17
          rw [hG] at KF
          refine ⟨_, _, KF _ ?_, hrun, hended, _, _, rfl, ?_, ⟨_, rfl⟩, hW, hsame.mono (by decide) (by decide)⟩
          · refine XS.ifYes X15.here hx rfl (pc0 := 31) (pc' := 38) rfl (hb hby d2_31) rfl ((if0 _ _).trans (teq hc18).1) (by decide) (by decide) ?_
            refine XS.iloadN X15.here hx rfl (hb hby d2_38) rfl ?_
            refine XS.iconst X15.here hx rfl (hb hby d2_39) ?_
            refine XS.isub X15.here hx rfl (hb hby d2_40) rfl ?_
            show Steps p.tables e below (T15.setTop (mkF m 41 #[.val (.ref a1), .val (.int p2)] [(.int (p2 - (1 : Int32)))])) _
            exact own_retI X15 hx Bd.returns (hb hby d2_41) hr
          · show Q2 a1 p2 k1 z vs f h0 n0 _ T15.heap _
            rw [e15]
            exact ⟨by simp only [own_B, if_pos hc2, if_neg hc9, if_pos hc11, if_pos hc18], N16, rfl⟩
        · obtain ⟨fs, hr, hrun, hended, hW, hsame⟩ := X15.leave (v := some (.int (p2 - (2 : Int32)))) (fun h => by rw [Bd.returns] at h; cases h)
          have KF := K17
          rw [hG] at KF
          refine ⟨_, _, KF _ ?_, hrun, hended, _, _, rfl, ?_, ⟨_, rfl⟩, hW, hsame.mono (by decide) (by decide)⟩
          · refine XS.ifNo X15.here hx rfl (hb hby d2_31) rfl ((if0 _ _).trans (feq hc18).1) ?_
            refine XS.iloadN X15.here hx rfl (hb hby d2_34) rfl ?_
            refine XS.iconst X15.here hx rfl (hb hby d2_35) ?_
            refine XS.isub X15.here hx rfl (hb hby d2_36) rfl ?_
            show Steps p.tables e below (T15.setTop (mkF m 37 #[.val (.ref a1), .val (.int p2)] [(.int (p2 - (2 : Int32)))])) _
            exact own_retI X15 hx Bd.returns (hb hby d2_37) hr
          · show Q2 a1 p2 k1 z vs f h0 n0 _ T15.heap _
            rw [e15]
            exact ⟨by simp only [own_B, if_pos hc2, if_neg hc9, if_pos hc11, if_neg hc18], N16, rfl⟩
      · obtain ⟨fs, hr, hrun, hended, hW, hsame⟩ := X6.leave (v := some (.int (p2 - (1 : Int32)))) (fun h => by rw [Bd.returns] at h; cases h)
        have KF := K10
        rw [hG] at KF
        refine ⟨_, _, KF _ ?_, hrun, hended, _, _, rfl, ?_, ⟨_, rfl⟩, hW, hsame.mono (by decide) (by decide)⟩
        · refine XS.ifYes X6.here hx rfl (pc0 := 20) (pc' := 38) rfl (hb hby d2_20) rfl ((if0 _ _).trans (flt hc11).2.2.2) (by decide) (by decide) ?_
          refine XS.iloadN X6.here hx rfl (hb hby d2_38) rfl ?_
          refine XS.iconst X6.here hx rfl (hb hby d2_39) ?_
          refine XS.isub X6.here hx rfl (hb hby d2_40) rfl ?_
          show Steps p.tables e below (T6.setTop (mkF m 41 #[.val (.ref a1), .val (.int p2)] [(.int (p2 - (1 : Int32)))])) _
          exact own_retI X6 hx Bd.returns (hb hby d2_41) hr
        · show Q2 a1 p2 k1 z vs f h0 n0 _ T6.heap _
          rw [e6]
          exact ⟨by simp only [own_B, if_pos hc2, if_neg hc9, if_neg hc11], N7, rfl⟩
  · obtain ⟨fs, hr, hrun, hended, hW, hsame⟩ := X0.leave (v := some (.int (-1 : Int32))) (fun h => by rw [Bd.returns] at h; cases h)
    have KF := K1
    rw [hG] at KF
    refine ⟨_, _, KF _ ?_, hrun, hended, _, _, rfl, ?_, ⟨_, rfl⟩, hW, hsame.mono (by decide) (by decide)⟩
    · refine XS.ifNo X0.here hx rfl (hb hby d2_1) rfl ((if0 _ _).trans (flt hc2).2.2.1) ?_
      refine XS.iconst X0.here hx rfl (hb hby d2_4) ?_
      show Steps p.tables e below (s₁.setTop (mkF m 5 #[.val (.ref a1), .val (.int p2)] [(.int (-1 : Int32))])) _
      exact own_retI X0 hx Bd.returns (hb hby d2_5) hr
    · show Q2 a1 p2 k1 z vs f h0 n0 _ s₁.heap _
      rw [e0]
      exact ⟨by simp only [own_B, if_neg hc2], N0, rfl⟩
theorem d34_0 : decode jdk_89_method_38_code 0 = .ok (.iload_n 3, 1) := by decide +kernel
theorem d34_1 : decode jdk_89_method_38_code 1 = .ok (.istore 5, 2) := by decide +kernel
theorem d34_3 : decode jdk_89_method_38_code 3 = .ok (.iload 4, 2) := by decide +kernel
theorem d34_5 : decode jdk_89_method_38_code 5 = .ok (.ifCond .lt 82, 3) := by decide +kernel
theorem d34_8 : decode jdk_89_method_38_code 8 = .ok (.iload_n 1, 1) := by decide +kernel
theorem d34_9 : decode jdk_89_method_38_code 9 = .ok (.iload_n 2, 1) := by decide +kernel
theorem d34_10 : decode jdk_89_method_38_code 10 = .ok (.iadd, 1) := by decide +kernel
theorem d34_11 : decode jdk_89_method_38_code 11 = .ok (.istore 6, 2) := by decide +kernel
theorem d34_13 : decode jdk_89_method_38_code 13 = .ok (.iconst 0, 1) := by decide +kernel
theorem d34_14 : decode jdk_89_method_38_code 14 = .ok (.istore 7, 2) := by decide +kernel
theorem d34_16 : decode jdk_89_method_38_code 16 = .ok (.iload 5, 2) := by decide +kernel
theorem d34_18 : decode jdk_89_method_38_code 18 = .ok (.iload 6, 2) := by decide +kernel
theorem d34_20 : decode jdk_89_method_38_code 20 = .ok (.if_icmp .ge 49, 3) := by decide +kernel
theorem d34_23 : decode jdk_89_method_38_code 23 = .ok (.iload 7, 2) := by decide +kernel
theorem d34_25 : decode jdk_89_method_38_code 25 = .ok (.iload 4, 2) := by decide +kernel
theorem d34_27 : decode jdk_89_method_38_code 27 = .ok (.if_icmp .ge 42, 3) := by decide +kernel
theorem d34_30 : decode jdk_89_method_38_code 30 = .ok (.aload_n 0, 1) := by decide +kernel
theorem d34_31 : decode jdk_89_method_38_code 31 = .ok (.iload 5, 2) := by decide +kernel
theorem d34_33 : decode jdk_89_method_38_code 33 = .ok (.iinc 5 1, 3) := by decide +kernel
theorem d34_36 : decode jdk_89_method_38_code 36 = .ok (.caload, 1) := by decide +kernel
theorem d34_37 : decode jdk_89_method_38_code 37 = .ok (.invokestatic 78, 3) := by decide +kernel
theorem d34_40 : decode jdk_89_method_38_code 40 = .ok (.ifCond .eq 23, 3) := by decide +kernel
theorem d34_43 : decode jdk_89_method_38_code 43 = .ok (.iload 5, 2) := by decide +kernel
theorem d34_45 : decode jdk_89_method_38_code 45 = .ok (.iload 6, 2) := by decide +kernel
theorem d34_47 : decode jdk_89_method_38_code 47 = .ok (.if_icmp .ge 16, 3) := by decide +kernel
theorem d34_50 : decode jdk_89_method_38_code 50 = .ok (.aload_n 0, 1) := by decide +kernel
theorem d34_51 : decode jdk_89_method_38_code 51 = .ok (.iload 5, 2) := by decide +kernel
theorem d34_53 : decode jdk_89_method_38_code 53 = .ok (.caload, 1) := by decide +kernel
theorem d34_54 : decode jdk_89_method_38_code 54 = .ok (.invokestatic 82, 3) := by decide +kernel
theorem d34_57 : decode jdk_89_method_38_code 57 = .ok (.ifCond .eq 6, 3) := by decide +kernel
theorem d34_60 : decode jdk_89_method_38_code 60 = .ok (.iinc 5 1, 3) := by decide +kernel
theorem d34_63 : decode jdk_89_method_38_code 63 = .ok (.iinc 7 1, 3) := by decide +kernel
theorem d34_66 : decode jdk_89_method_38_code 66 = .ok (.goto (-50), 3) := by decide +kernel
theorem d34_69 : decode jdk_89_method_38_code 69 = .ok (.iload 7, 2) := by decide +kernel
theorem d34_71 : decode jdk_89_method_38_code 71 = .ok (.iload 4, 2) := by decide +kernel
theorem d34_73 : decode jdk_89_method_38_code 73 = .ok (.if_icmp .ge 11, 3) := by decide +kernel
theorem d34_76 : decode jdk_89_method_38_code 76 = .ok (.new 104, 3) := by decide +kernel
theorem d34_79 : decode jdk_89_method_38_code 79 = .ok (.dup, 1) := by decide +kernel
theorem d34_80 : decode jdk_89_method_38_code 80 = .ok (.invokespecial 106, 3) := by decide +kernel
theorem d34_83 : decode jdk_89_method_38_code 83 = .ok (.athrow, 1) := by decide +kernel
theorem d34_84 : decode jdk_89_method_38_code 84 = .ok (.goto 71, 3) := by decide +kernel
theorem d34_87 : decode jdk_89_method_38_code 87 = .ok (.iload 4, 2) := by decide +kernel
theorem d34_89 : decode jdk_89_method_38_code 89 = .ok (.istore 6, 2) := by decide +kernel
theorem d34_91 : decode jdk_89_method_38_code 91 = .ok (.iload 5, 2) := by decide +kernel
theorem d34_93 : decode jdk_89_method_38_code 93 = .ok (.iload_n 1, 1) := by decide +kernel
theorem d34_94 : decode jdk_89_method_38_code 94 = .ok (.if_icmp .le 48, 3) := by decide +kernel
theorem d34_97 : decode jdk_89_method_38_code 97 = .ok (.iload 6, 2) := by decide +kernel
theorem d34_99 : decode jdk_89_method_38_code 99 = .ok (.ifCond .ge 43, 3) := by decide +kernel
theorem d34_102 : decode jdk_89_method_38_code 102 = .ok (.aload_n 0, 1) := by decide +kernel
theorem d34_103 : decode jdk_89_method_38_code 103 = .ok (.iinc 5 (-1), 3) := by decide +kernel
theorem d34_106 : decode jdk_89_method_38_code 106 = .ok (.iload 5, 2) := by decide +kernel
theorem d34_108 : decode jdk_89_method_38_code 108 = .ok (.caload, 1) := by decide +kernel
theorem d34_109 : decode jdk_89_method_38_code 109 = .ok (.invokestatic 82, 3) := by decide +kernel
theorem d34_112 : decode jdk_89_method_38_code 112 = .ok (.ifCond .eq 24, 3) := by decide +kernel
theorem d34_115 : decode jdk_89_method_38_code 115 = .ok (.iload 5, 2) := by decide +kernel
theorem d34_117 : decode jdk_89_method_38_code 117 = .ok (.iload_n 1, 1) := by decide +kernel
theorem d34_118 : decode jdk_89_method_38_code 118 = .ok (.if_icmp .le 18, 3) := by decide +kernel
theorem d34_121 : decode jdk_89_method_38_code 121 = .ok (.aload_n 0, 1) := by decide +kernel
theorem d34_122 : decode jdk_89_method_38_code 122 = .ok (.iload 5, 2) := by decide +kernel
theorem d34_124 : decode jdk_89_method_38_code 124 = .ok (.iconst 1, 1) := by decide +kernel
theorem d34_125 : decode jdk_89_method_38_code 125 = .ok (.isub, 1) := by decide +kernel
theorem d34_126 : decode jdk_89_method_38_code 126 = .ok (.caload, 1) := by decide +kernel
theorem d34_127 : decode jdk_89_method_38_code 127 = .ok (.invokestatic 78, 3) := by decide +kernel
theorem d34_130 : decode jdk_89_method_38_code 130 = .ok (.ifCond .eq 6, 3) := by decide +kernel
theorem d34_133 : decode jdk_89_method_38_code 133 = .ok (.iinc 5 (-1), 3) := by decide +kernel
theorem d34_136 : decode jdk_89_method_38_code 136 = .ok (.iinc 6 1, 3) := by decide +kernel
theorem d34_139 : decode jdk_89_method_38_code 139 = .ok (.goto (-48), 3) := by decide +kernel
theorem d34_142 : decode jdk_89_method_38_code 142 = .ok (.iload 6, 2) := by decide +kernel
theorem d34_144 : decode jdk_89_method_38_code 144 = .ok (.ifCond .ge 11, 3) := by decide +kernel
theorem d34_147 : decode jdk_89_method_38_code 147 = .ok (.new 104, 3) := by decide +kernel
theorem d34_150 : decode jdk_89_method_38_code 150 = .ok (.dup, 1) := by decide +kernel
theorem d34_151 : decode jdk_89_method_38_code 151 = .ok (.invokespecial 106, 3) := by decide +kernel
theorem d34_154 : decode jdk_89_method_38_code 154 = .ok (.athrow, 1) := by decide +kernel
theorem d34_155 : decode jdk_89_method_38_code 155 = .ok (.iload 5, 2) := by decide +kernel
theorem d34_157 : decode jdk_89_method_38_code 157 = .ok (.ireturn, 1) := by decide +kernel
set_option maxRecDepth 65536 in
set_option maxHeartbeats 40000000 in
theorem own_lfS (l : Launch) (Z : State) (a0 : Array Value) (hw : ∀ d ∈ tables_1, d.before a0 Z = true) (a1 : Addr) (p3 p4 p5 : Int32) (k1 : ClassId) (z : Int32) (vs : List Value) (f : Nat → Int32) (h0 : Heap) (n0 : Nat) (Z0 : n0 ≤ h0.size) (V1 : Arv Z h0 a1 k1 .char z vs (Value.int (0 : Int32))) (hf : ∀ j : Nat, j < 4 → vs.getD j (Value.int (0 : Int32)) = .int (f j)) (hz : ¬ z < 4) (hn : p3.toInt ≤ 4) {p : Program} {e : Env} {s : State} {m : MethodId} {args : Array Value} {below : List Frame} {meth : Method} {c : Code} (hx : p.tables.exec = Jvm.exec) (hZ : Z.Warmed39 s.vm) (hby : c.code = jdk_89_method_38_code) (hml : c.maxLocals = 8) (hown : s.vm.findClass "java/lang/Character" = some m.cls) {T0 : State} {locs : List Loc} (X0 : Stand p l e ({ frames := 1, cells := 0, slots := 0, locals := 12 } : Room) s m args below meth c T0 locs 0 0) (e0 : T0.heap = h0) (N0 : Fr n0 locs) (i x : Int32) (h0x : ¬ x < 0) (hxn : x < p3) (hit : i < p5) : ∃ (T' : State) (locs' : List Loc), Stand p l e ({ frames := 1, cells := 0, slots := 0, locals := 12 } : Room) s m args below meth c T' locs' 0 0 ∧ T'.heap = h0 ∧ Fr n0 locs' ∧ ∀ t, Steps p.tables e below (T'.setTop (mkF m 16 #[.val (.ref a1), .val (.int (0 : Int32)), .val (.int p3), .val (.int p4), .val (.int p5), .val (.int (own_F f p3 x)), .val (.int p3), .val (.int (i + (1 : Int32)))] [])) t → Steps p.tables e below (T0.setTop (mkF m 16 #[.val (.ref a1), .val (.int (0 : Int32)), .val (.int p3), .val (.int p4), .val (.int p5), .val (.int x), .val (.int p3), .val (.int i)] [])) t := by
  have KP0 : Keep h0 h0 [] := Keep.refl h0 _
  have pre0 : ∀ t, Steps p.tables e below (T0.setTop (mkF m 16 #[.val (.ref a1), .val (.int (0 : Int32)), .val (.int p3), .val (.int p4), .val (.int p5), .val (.int x), .val (.int p3), .val (.int i)] [])) t → Steps p.tables e below (T0.setTop (mkF m 16 #[.val (.ref a1), .val (.int (0 : Int32)), .val (.int p3), .val (.int p4), .val (.int p5), .val (.int x), .val (.int p3), .val (.int i)] [])) t := fun t k => k
  have K1 : ∀ t, Steps p.tables e below (T0.setTop (mkF m 36 #[.val (.ref a1), .val (.int (0 : Int32)), .val (.int p3), .val (.int p4), .val (.int p5), .val (.int (x + (1 : Int32))), .val (.int p3), .val (.int i)] [(.int x), (.ref a1)])) t → Steps p.tables e below (T0.setTop (mkF m 16 #[.val (.ref a1), .val (.int (0 : Int32)), .val (.int p3), .val (.int p4), .val (.int p5), .val (.int x), .val (.int p3), .val (.int i)] [])) t := by
    intro t k
    refine pre0 t ?_
    refine XS.iload X0.here hx rfl (hb hby d34_16) rfl ?_
    refine XS.iload X0.here hx rfl (hb hby d34_18) rfl ?_
    refine XS.icmpNo X0.here hx rfl (hb hby d34_20) rfl (tlt hxn).2.1 ?_
    refine XS.iload X0.here hx rfl (hb hby d34_23) rfl ?_
    refine XS.iload X0.here hx rfl (hb hby d34_25) rfl ?_
    refine XS.icmpNo X0.here hx rfl (hb hby d34_27) rfl (tlt hit).2.1 ?_
    refine XS.aloadN X0.here hx rfl (hb hby d34_30) rfl rfl ?_
    refine XS.iload X0.here hx rfl (hb hby d34_31) rfl ?_
    refine XS.iinc X0.here hx rfl (hb hby d34_33) rfl (l' := #[.val (.ref a1), .val (.int (0 : Int32)), .val (.int p3), .val (.int p4), .val (.int p5), .val (.int (x + (1 : Int32))), .val (.int p3), .val (.int i)]) rfl ?_
    exact k
  obtain ⟨cl2, Ar2, qc2, S2, M2, Ha2, Ga2⟩ := id V1
  have hin2 : ¬ (x < 0 ∨ cl2.slots.size ≤ (x).toNatClampNeg) := inb_of S2 (own_at h0x hxn hn hz).1
  have hat2 : cl2.slots[(x).toNatClampNeg]? = some (.int (f x.toNatClampNeg)) := Ha2.at hin2 (hf _ (own_at h0x hxn hn hz).2)
  have K3 : ∀ t, Steps p.tables e below (T0.setTop (mkF m 37 #[.val (.ref a1), .val (.int (0 : Int32)), .val (.int p3), .val (.int p4), .val (.int p5), .val (.int (x + (1 : Int32))), .val (.int p3), .val (.int i)] [(.int (f x.toNatClampNeg))])) t → Steps p.tables e below (T0.setTop (mkF m 16 #[.val (.ref a1), .val (.int (0 : Int32)), .val (.int p3), .val (.int p4), .val (.int p5), .val (.int x), .val (.int p3), .val (.int i)] [])) t := fun t k => K1 t (X0.caload hx (j := x) (v := (.int (f x.toNatClampNeg))) (by rw [e0]; exact Ar2.1) (State.isArrayOf_alike hZ.alike Ar2.2.1) Ar2.2.2 hin2 hat2 (g := (mkF m 36 #[.val (.ref a1), .val (.int (0 : Int32)), .val (.int p3), .val (.int p4), .val (.int p5), .val (.int (x + (1 : Int32))), .val (.int p3), .val (.int i)] [(.int x), (.ref a1)])) rfl rfl (hb hby d34_36) _ k)
  obtain ⟨_, _, ⟨T4, L4, kk4, nn4⟩, -, X4, ⟨Lc4, hQ4, lq4, yq4, zq4⟩, st4⟩ := Jvm.LawKit.callS X0 hx (y := (⟨"java/lang/Character", "isHighSurrogate", "(C)Z"⟩ : MethodName)) hown (mvT hZ (hw _ (List.mem_of_getElem? (i := 162) rfl))) (mvT hZ (hw _ (List.mem_of_getElem? (i := 163) rfl))) (mvT hZ (hw _ (List.mem_of_getElem? (i := 151) rfl))) (mvT hZ (hw _ (List.mem_of_getElem? (i := 164) rfl))) (by decide) (backOf (W := 0) (rm37 l Z a0 hw [] (f x.toNatClampNeg) h0 n0 Z0 ) hZ (hw _ (List.mem_of_getElem? (i := 164) rfl)) (hw _ (List.mem_of_getElem? (i := 151) rfl)) (by decide) (by decide)) (g := (mkF m 37 #[.val (.ref a1), .val (.int (0 : Int32)), .val (.int p3), .val (.int p4), .val (.int p5), .val (.int (x + (1 : Int32))), .val (.int p3), .val (.int i)] [(.int (f x.toNatClampNeg))])) rfl (by rw [hml]; rfl) (argsL := [(.int (f x.toNatClampNeg))]) (rest := []) (lenOf pd_22 rfl) rfl (by show 2 * 0 + _ ≤ _; exact Nat.le_of_eq rfl) (hb hby d34_37) (fun _ _ => ⟨rfl, e0, (by decide : 0 + 0 ≤ _), (by decide : 0 + 0 ≤ _)⟩)
  dsimp only [Pt.U, Pt.locs, Pt.cells, Pt.slots] at X4 lq4 yq4 zq4 st4 hQ4
  subst lq4 yq4 zq4
  obtain ⟨rfl, Nq4, e4⟩ := hQ4
  have N5 := Fr.app N0 Nq4
  have K6 : ∀ t, Steps p.tables e below (T4.setTop (mkF m 40 #[.val (.ref a1), .val (.int (0 : Int32)), .val (.int p3), .val (.int p4), .val (.int p5), .val (.int (x + (1 : Int32))), .val (.int p3), .val (.int i)] [(.int (own_hi (f x.toNatClampNeg)))])) t → Steps p.tables e below (T0.setTop (mkF m 16 #[.val (.ref a1), .val (.int (0 : Int32)), .val (.int p3), .val (.int p4), .val (.int p5), .val (.int x), .val (.int p3), .val (.int i)] [])) t := fun t k => K3 t (st4 _ k)
  by_cases hc7 : (own_hi (f x.toNatClampNeg)) = (0 : Int32)
  · have K8 : ∀ t, Steps p.tables e below (T4.setTop (mkF m 16 #[.val (.ref a1), .val (.int (0 : Int32)), .val (.int p3), .val (.int p4), .val (.int p5), .val (.int (x + (1 : Int32))), .val (.int p3), .val (.int (i + (1 : Int32)))] [])) t → Steps p.tables e below (T0.setTop (mkF m 16 #[.val (.ref a1), .val (.int (0 : Int32)), .val (.int p3), .val (.int p4), .val (.int p5), .val (.int x), .val (.int p3), .val (.int i)] [])) t := by
      intro t k
      refine K6 t ?_
      refine XS.ifYes X4.here hx rfl (pc0 := 40) (pc' := 63) rfl (hb hby d34_40) rfl ((if0 _ _).trans (teq hc7).1) (by decide) (by decide) ?_
      refine XS.iinc X4.here hx rfl (hb hby d34_63) rfl (l' := #[.val (.ref a1), .val (.int (0 : Int32)), .val (.int p3), .val (.int p4), .val (.int p5), .val (.int (x + (1 : Int32))), .val (.int p3), .val (.int (i + (1 : Int32)))]) rfl ?_
      refine XS.goto X4.here hx rfl (pc0 := 66) (pc' := 16) rfl (hb hby d34_66) (by decide) (by decide) ?_
      exact k
    have hF : own_F f p3 x = (x + (1 : Int32)) := by simp only [own_F, if_neg h0x, if_pos hxn, if_pos hc7]
    rw [hF]
    exact ⟨_, _, X4, e4, N5, K8⟩
  · have K9 : ∀ t, Steps p.tables e below (T4.setTop (mkF m 47 #[.val (.ref a1), .val (.int (0 : Int32)), .val (.int p3), .val (.int p4), .val (.int p5), .val (.int (x + (1 : Int32))), .val (.int p3), .val (.int i)] [(.int p3), (.int (x + (1 : Int32)))])) t → Steps p.tables e below (T0.setTop (mkF m 16 #[.val (.ref a1), .val (.int (0 : Int32)), .val (.int p3), .val (.int p4), .val (.int p5), .val (.int x), .val (.int p3), .val (.int i)] [])) t := by
      intro t k
      refine K6 t ?_
      refine XS.ifNo X4.here hx rfl (hb hby d34_40) rfl ((if0 _ _).trans (feq hc7).1) ?_
      refine XS.iload X4.here hx rfl (hb hby d34_43) rfl ?_
      refine XS.iload X4.here hx rfl (hb hby d34_45) rfl ?_
      exact k
    by_cases hc10 : (x + (1 : Int32)) < p3
    · have K11 : ∀ t, Steps p.tables e below (T4.setTop (mkF m 53 #[.val (.ref a1), .val (.int (0 : Int32)), .val (.int p3), .val (.int p4), .val (.int p5), .val (.int (x + (1 : Int32))), .val (.int p3), .val (.int i)] [(.int (x + (1 : Int32))), (.ref a1)])) t → Steps p.tables e below (T0.setTop (mkF m 16 #[.val (.ref a1), .val (.int (0 : Int32)), .val (.int p3), .val (.int p4), .val (.int p5), .val (.int x), .val (.int p3), .val (.int i)] [])) t := by
        intro t k
        refine K9 t ?_
        refine XS.icmpNo X4.here hx rfl (hb hby d34_47) rfl (tlt hc10).2.1 ?_
        refine XS.aloadN X4.here hx rfl (hb hby d34_50) rfl rfl ?_
        refine XS.iload X4.here hx rfl (hb hby d34_51) rfl ?_
        exact k
      obtain ⟨cl12, Ar12, qc12, S12, M12, Ha12, Ga12⟩ := id V1
      have hin12 : ¬ ((x + (1 : Int32)) < 0 ∨ cl12.slots.size ≤ ((x + (1 : Int32))).toNatClampNeg) := inb_of S12 (own_at (own_p1 h0x hxn hn) hc10 hn hz).1
      have hat12 : cl12.slots[((x + (1 : Int32))).toNatClampNeg]? = some (.int (f (x + (1 : Int32)).toNatClampNeg)) := Ha12.at hin12 (hf _ (own_at (own_p1 h0x hxn hn) hc10 hn hz).2)
      have K13 : ∀ t, Steps p.tables e below (T4.setTop (mkF m 54 #[.val (.ref a1), .val (.int (0 : Int32)), .val (.int p3), .val (.int p4), .val (.int p5), .val (.int (x + (1 : Int32))), .val (.int p3), .val (.int i)] [(.int (f (x + (1 : Int32)).toNatClampNeg))])) t → Steps p.tables e below (T0.setTop (mkF m 16 #[.val (.ref a1), .val (.int (0 : Int32)), .val (.int p3), .val (.int p4), .val (.int p5), .val (.int x), .val (.int p3), .val (.int i)] [])) t := fun t k => K11 t (X4.caload hx (j := (x + (1 : Int32))) (v := (.int (f (x + (1 : Int32)).toNatClampNeg))) (by rw [e4]; exact Ar12.1) (State.isArrayOf_alike hZ.alike Ar12.2.1) Ar12.2.2 hin12 hat12 (g := (mkF m 53 #[.val (.ref a1), .val (.int (0 : Int32)), .val (.int p3), .val (.int p4), .val (.int p5), .val (.int (x + (1 : Int32))), .val (.int p3), .val (.int i)] [(.int (x + (1 : Int32))), (.ref a1)])) rfl rfl (hb hby d34_53) _ k)
      obtain ⟨_, _, ⟨T14, L14, kk14, nn14⟩, -, X14, ⟨Lc14, hQ14, lq14, yq14, zq14⟩, st14⟩ := Jvm.LawKit.callS X4 hx (y := (⟨"java/lang/Character", "isLowSurrogate", "(C)Z"⟩ : MethodName)) hown (mvT hZ (hw _ (List.mem_of_getElem? (i := 172) rfl))) (mvT hZ (hw _ (List.mem_of_getElem? (i := 173) rfl))) (mvT hZ (hw _ (List.mem_of_getElem? (i := 151) rfl))) (mvT hZ (hw _ (List.mem_of_getElem? (i := 174) rfl))) (by decide) (backOf (W := 0) (rm39 l Z a0 hw [] (f (x + (1 : Int32)).toNatClampNeg) h0 n0 Z0 ) hZ (hw _ (List.mem_of_getElem? (i := 174) rfl)) (hw _ (List.mem_of_getElem? (i := 151) rfl)) (by decide) (by decide)) (g := (mkF m 54 #[.val (.ref a1), .val (.int (0 : Int32)), .val (.int p3), .val (.int p4), .val (.int p5), .val (.int (x + (1 : Int32))), .val (.int p3), .val (.int i)] [(.int (f (x + (1 : Int32)).toNatClampNeg))])) rfl (by rw [hml]; rfl) (argsL := [(.int (f (x + (1 : Int32)).toNatClampNeg))]) (rest := []) (lenOf pd_22 rfl) rfl (by show 2 * 0 + _ ≤ _; exact Nat.le_of_eq rfl) (hb hby d34_54) (fun _ _ => ⟨rfl, e4, (by decide : 0 + 0 ≤ _), (by decide : 0 + 0 ≤ _)⟩)
      dsimp only [Pt.U, Pt.locs, Pt.cells, Pt.slots] at X14 lq14 yq14 zq14 st14 hQ14
      subst lq14 yq14 zq14
      obtain ⟨rfl, Nq14, e14⟩ := hQ14
      have N15 := Fr.app N5 Nq14
      have K16 : ∀ t, Steps p.tables e below (T14.setTop (mkF m 57 #[.val (.ref a1), .val (.int (0 : Int32)), .val (.int p3), .val (.int p4), .val (.int p5), .val (.int (x + (1 : Int32))), .val (.int p3), .val (.int i)] [(.int (own_lo (f (x + (1 : Int32)).toNatClampNeg)))])) t → Steps p.tables e below (T0.setTop (mkF m 16 #[.val (.ref a1), .val (.int (0 : Int32)), .val (.int p3), .val (.int p4), .val (.int p5), .val (.int x), .val (.int p3), .val (.int i)] [])) t := fun t k => K13 t (st14 _ k)
      by_cases hc17 : (own_lo (f (x + (1 : Int32)).toNatClampNeg)) = (0 : Int32)
      · have K18 : ∀ t, Steps p.tables e below (T14.setTop (mkF m 16 #[.val (.ref a1), .val (.int (0 : Int32)), .val (.int p3), .val (.int p4), .val (.int p5), .val (.int (x + (1 : Int32))), .val (.int p3), .val (.int (i + (1 : Int32)))] [])) t → Steps p.tables e below (T0.setTop (mkF m 16 #[.val (.ref a1), .val (.int (0 : Int32)), .val (.int p3), .val (.int p4), .val (.int p5), .val (.int x), .val (.int p3), .val (.int i)] [])) t := by
          intro t k
          refine K16 t ?_
          refine XS.ifYes X14.here hx rfl (pc0 := 57) (pc' := 63) rfl (hb hby d34_57) rfl ((if0 _ _).trans (teq hc17).1) (by decide) (by decide) ?_
          refine XS.iinc X14.here hx rfl (hb hby d34_63) rfl (l' := #[.val (.ref a1), .val (.int (0 : Int32)), .val (.int p3), .val (.int p4), .val (.int p5), .val (.int (x + (1 : Int32))), .val (.int p3), .val (.int (i + (1 : Int32)))]) rfl ?_
          refine XS.goto X14.here hx rfl (pc0 := 66) (pc' := 16) rfl (hb hby d34_66) (by decide) (by decide) ?_
          exact k
        have hF : own_F f p3 x = (x + (1 : Int32)) := by simp only [own_F, if_neg h0x, if_pos hxn, if_neg hc7, if_pos hc10, if_pos hc17]
        rw [hF]
        exact ⟨_, _, X14, e14, N15, K18⟩
      · have K19 : ∀ t, Steps p.tables e below (T14.setTop (mkF m 16 #[.val (.ref a1), .val (.int (0 : Int32)), .val (.int p3), .val (.int p4), .val (.int p5), .val (.int ((x + (1 : Int32)) + (1 : Int32))), .val (.int p3), .val (.int (i + (1 : Int32)))] [])) t → Steps p.tables e below (T0.setTop (mkF m 16 #[.val (.ref a1), .val (.int (0 : Int32)), .val (.int p3), .val (.int p4), .val (.int p5), .val (.int x), .val (.int p3), .val (.int i)] [])) t := by
          intro t k
          refine K16 t ?_
          refine XS.ifNo X14.here hx rfl (hb hby d34_57) rfl ((if0 _ _).trans (feq hc17).1) ?_
          refine XS.iinc X14.here hx rfl (hb hby d34_60) rfl (l' := #[.val (.ref a1), .val (.int (0 : Int32)), .val (.int p3), .val (.int p4), .val (.int p5), .val (.int ((x + (1 : Int32)) + (1 : Int32))), .val (.int p3), .val (.int i)]) rfl ?_
          refine XS.iinc X14.here hx rfl (hb hby d34_63) rfl (l' := #[.val (.ref a1), .val (.int (0 : Int32)), .val (.int p3), .val (.int p4), .val (.int p5), .val (.int ((x + (1 : Int32)) + (1 : Int32))), .val (.int p3), .val (.int (i + (1 : Int32)))]) rfl ?_
          refine XS.goto X14.here hx rfl (pc0 := 66) (pc' := 16) rfl (hb hby d34_66) (by decide) (by decide) ?_
          exact k
        have hF : own_F f p3 x = ((x + (1 : Int32)) + (1 : Int32)) := by rw [own_a2]; simp only [own_F, if_neg h0x, if_pos hxn, if_neg hc7, if_pos hc10, if_neg hc17]
        rw [hF]
        exact ⟨_, _, X14, e14, N15, K19⟩
    · have K20 : ∀ t, Steps p.tables e below (T4.setTop (mkF m 16 #[.val (.ref a1), .val (.int (0 : Int32)), .val (.int p3), .val (.int p4), .val (.int p5), .val (.int (x + (1 : Int32))), .val (.int p3), .val (.int (i + (1 : Int32)))] [])) t → Steps p.tables e below (T0.setTop (mkF m 16 #[.val (.ref a1), .val (.int (0 : Int32)), .val (.int p3), .val (.int p4), .val (.int p5), .val (.int x), .val (.int p3), .val (.int i)] [])) t := by
        intro t k
        refine K9 t ?_
        refine XS.icmpYes X4.here hx rfl (pc0 := 47) (pc' := 63) rfl (hb hby d34_47) rfl (flt hc10).2.1 (by decide) (by decide) ?_
        refine XS.iinc X4.here hx rfl (hb hby d34_63) rfl (l' := #[.val (.ref a1), .val (.int (0 : Int32)), .val (.int p3), .val (.int p4), .val (.int p5), .val (.int (x + (1 : Int32))), .val (.int p3), .val (.int (i + (1 : Int32)))]) rfl ?_
        refine XS.goto X4.here hx rfl (pc0 := 66) (pc' := 16) rfl (hb hby d34_66) (by decide) (by decide) ?_
        exact k
      have hF : own_F f p3 x = (x + (1 : Int32)) := by simp only [own_F, if_neg h0x, if_pos hxn, if_neg hc7, if_neg hc10]
      rw [hF]
      exact ⟨_, _, X4, e4, N5, K20⟩
set_option maxRecDepth 65536 in
set_option maxHeartbeats 40000000 in
theorem own_lfE (l : Launch) (Z : State) (a0 : Array Value) (hw : ∀ d ∈ tables_1, d.before a0 Z = true) (a1 : Addr) (p3 p4 p5 : Int32) (k1 : ClassId) (z : Int32) (vs : List Value) (f : Nat → Int32) (h0 : Heap) (n0 : Nat) (Z0 : n0 ≤ h0.size) (V1 : Arv Z h0 a1 k1 .char z vs (Value.int (0 : Int32))) (hf : ∀ j : Nat, j < 4 → vs.getD j (Value.int (0 : Int32)) = .int (f j)) (hz : ¬ z < 4) (hn : p3.toInt ≤ 4) {p : Program} {e : Env} {s : State} {m : MethodId} {args : Array Value} {below : List Frame} {meth : Method} {c : Code} (hx : p.tables.exec = Jvm.exec) (hZ : Z.Warmed39 s.vm) (hby : c.code = jdk_89_method_38_code) (hml : c.maxLocals = 8) (hown : s.vm.findClass "java/lang/Character" = some m.cls) {T0 : State} {locs : List Loc} (X0 : Stand p l e ({ frames := 1, cells := 0, slots := 0, locals := 12 } : Room) s m args below meth c T0 locs 0 0) (e0 : T0.heap = h0) (N0 : Fr n0 locs) (i x : Int32) (hit : ¬ i < p5) : ∃ (T' : State) (locs' : List Loc), Stand p l e ({ frames := 1, cells := 0, slots := 0, locals := 12 } : Room) s m args below meth c T' locs' 0 0 ∧ T'.heap = h0 ∧ Fr n0 locs' ∧ ∀ t, Steps p.tables e below (T'.setTop (mkF m 155 #[.val (.ref a1), .val (.int (0 : Int32)), .val (.int p3), .val (.int p4), .val (.int p5), .val (.int x), .val (.int p3), .val (.int i)] [])) t → Steps p.tables e below (T0.setTop (mkF m 16 #[.val (.ref a1), .val (.int (0 : Int32)), .val (.int p3), .val (.int p4), .val (.int p5), .val (.int x), .val (.int p3), .val (.int i)] [])) t := by
  have KP0 : Keep h0 h0 [] := Keep.refl h0 _
  have pre0 : ∀ t, Steps p.tables e below (T0.setTop (mkF m 16 #[.val (.ref a1), .val (.int (0 : Int32)), .val (.int p3), .val (.int p4), .val (.int p5), .val (.int x), .val (.int p3), .val (.int i)] [])) t → Steps p.tables e below (T0.setTop (mkF m 16 #[.val (.ref a1), .val (.int (0 : Int32)), .val (.int p3), .val (.int p4), .val (.int p5), .val (.int x), .val (.int p3), .val (.int i)] [])) t := fun t k => k
  have K1 : ∀ t, Steps p.tables e below (T0.setTop (mkF m 20 #[.val (.ref a1), .val (.int (0 : Int32)), .val (.int p3), .val (.int p4), .val (.int p5), .val (.int x), .val (.int p3), .val (.int i)] [(.int p3), (.int x)])) t → Steps p.tables e below (T0.setTop (mkF m 16 #[.val (.ref a1), .val (.int (0 : Int32)), .val (.int p3), .val (.int p4), .val (.int p5), .val (.int x), .val (.int p3), .val (.int i)] [])) t := by
    intro t k
    refine pre0 t ?_
    refine XS.iload X0.here hx rfl (hb hby d34_16) rfl ?_
    refine XS.iload X0.here hx rfl (hb hby d34_18) rfl ?_
    exact k
  by_cases hc2 : x < p3
  · have K3 : ∀ t, Steps p.tables e below (T0.setTop (mkF m 155 #[.val (.ref a1), .val (.int (0 : Int32)), .val (.int p3), .val (.int p4), .val (.int p5), .val (.int x), .val (.int p3), .val (.int i)] [])) t → Steps p.tables e below (T0.setTop (mkF m 16 #[.val (.ref a1), .val (.int (0 : Int32)), .val (.int p3), .val (.int p4), .val (.int p5), .val (.int x), .val (.int p3), .val (.int i)] [])) t := by
      intro t k
      refine K1 t ?_
      refine XS.icmpNo X0.here hx rfl (hb hby d34_20) rfl (tlt hc2).2.1 ?_
      refine XS.iload X0.here hx rfl (hb hby d34_23) rfl ?_
      refine XS.iload X0.here hx rfl (hb hby d34_25) rfl ?_
      refine XS.icmpYes X0.here hx rfl (pc0 := 27) (pc' := 69) rfl (hb hby d34_27) rfl (flt hit).2.1 (by decide) (by decide) ?_
      refine XS.iload X0.here hx rfl (hb hby d34_69) rfl ?_
      refine XS.iload X0.here hx rfl (hb hby d34_71) rfl ?_
      refine XS.icmpYes X0.here hx rfl (pc0 := 73) (pc' := 84) rfl (hb hby d34_73) rfl (flt hit).2.1 (by decide) (by decide) ?_
      refine XS.goto X0.here hx rfl (pc0 := 84) (pc' := 155) rfl (hb hby d34_84) (by decide) (by decide) ?_
      exact k
    exact ⟨_, _, X0, e0, N0, K3⟩
  · have K4 : ∀ t, Steps p.tables e below (T0.setTop (mkF m 155 #[.val (.ref a1), .val (.int (0 : Int32)), .val (.int p3), .val (.int p4), .val (.int p5), .val (.int x), .val (.int p3), .val (.int i)] [])) t → Steps p.tables e below (T0.setTop (mkF m 16 #[.val (.ref a1), .val (.int (0 : Int32)), .val (.int p3), .val (.int p4), .val (.int p5), .val (.int x), .val (.int p3), .val (.int i)] [])) t := by
      intro t k
      refine K1 t ?_
      refine XS.icmpYes X0.here hx rfl (pc0 := 20) (pc' := 69) rfl (hb hby d34_20) rfl (flt hc2).2.1 (by decide) (by decide) ?_
      refine XS.iload X0.here hx rfl (hb hby d34_69) rfl ?_
      refine XS.iload X0.here hx rfl (hb hby d34_71) rfl ?_
      refine XS.icmpYes X0.here hx rfl (pc0 := 73) (pc' := 84) rfl (hb hby d34_73) rfl (flt hit).2.1 (by decide) (by decide) ?_
      refine XS.goto X0.here hx rfl (pc0 := 84) (pc' := 155) rfl (hb hby d34_84) (by decide) (by decide) ?_
      exact k
    exact ⟨_, _, X0, e0, N0, K4⟩
set_option maxRecDepth 65536 in
set_option maxHeartbeats 40000000 in
theorem own_lbS (l : Launch) (Z : State) (a0 : Array Value) (hw : ∀ d ∈ tables_1, d.before a0 Z = true) (a1 : Addr) (p3 p4 p5 : Int32) (k1 : ClassId) (z : Int32) (vs : List Value) (f : Nat → Int32) (h0 : Heap) (n0 : Nat) (Z0 : n0 ≤ h0.size) (V1 : Arv Z h0 a1 k1 .char z vs (Value.int (0 : Int32))) (hf : ∀ j : Nat, j < 4 → vs.getD j (Value.int (0 : Int32)) = .int (f j)) (hz : ¬ z < 4) (hn : p3.toInt ≤ 4) {p : Program} {e : Env} {s : State} {m : MethodId} {args : Array Value} {below : List Frame} {meth : Method} {c : Code} (hx : p.tables.exec = Jvm.exec) (hZ : Z.Warmed39 s.vm) (hby : c.code = jdk_89_method_38_code) (hml : c.maxLocals = 8) (hown : s.vm.findClass "java/lang/Character" = some m.cls) {T0 : State} {locs : List Loc} (X0 : Stand p l e ({ frames := 1, cells := 0, slots := 0, locals := 12 } : Room) s m args below meth c T0 locs 0 0) (e0 : T0.heap = h0) (N0 : Fr n0 locs) (i x : Int32) (hx0 : (0 : Int32) < x) (hx4 : x.toInt ≤ 4) (hit : i < 0) : ∃ (T' : State) (locs' : List Loc), Stand p l e ({ frames := 1, cells := 0, slots := 0, locals := 12 } : Room) s m args below meth c T' locs' 0 0 ∧ T'.heap = h0 ∧ Fr n0 locs' ∧ ∀ t, Steps p.tables e below (T'.setTop (mkF m 91 #[.val (.ref a1), .val (.int (0 : Int32)), .val (.int p3), .val (.int p4), .val (.int p5), .val (.int (own_B f x)), .val (.int (i + (1 : Int32))), .unset] [])) t → Steps p.tables e below (T0.setTop (mkF m 91 #[.val (.ref a1), .val (.int (0 : Int32)), .val (.int p3), .val (.int p4), .val (.int p5), .val (.int x), .val (.int i), .unset] [])) t := by
  have KP0 : Keep h0 h0 [] := Keep.refl h0 _
  have pre0 : ∀ t, Steps p.tables e below (T0.setTop (mkF m 91 #[.val (.ref a1), .val (.int (0 : Int32)), .val (.int p3), .val (.int p4), .val (.int p5), .val (.int x), .val (.int i), .unset] [])) t → Steps p.tables e below (T0.setTop (mkF m 91 #[.val (.ref a1), .val (.int (0 : Int32)), .val (.int p3), .val (.int p4), .val (.int p5), .val (.int x), .val (.int i), .unset] [])) t := fun t k => k
  have K1 : ∀ t, Steps p.tables e below (T0.setTop (mkF m 106 #[.val (.ref a1), .val (.int (0 : Int32)), .val (.int p3), .val (.int p4), .val (.int p5), .val (.int (x + (-1 : Int32))), .val (.int i), .unset] [(.ref a1)])) t → Steps p.tables e below (T0.setTop (mkF m 91 #[.val (.ref a1), .val (.int (0 : Int32)), .val (.int p3), .val (.int p4), .val (.int p5), .val (.int x), .val (.int i), .unset] [])) t := by
    intro t k
    refine pre0 t ?_
    refine XS.iload X0.here hx rfl (hb hby d34_91) rfl ?_
    refine XS.iloadN X0.here hx rfl (hb hby d34_93) rfl ?_
    refine XS.icmpNo X0.here hx rfl (hb hby d34_94) rfl (tlt hx0).2.2.2 ?_
    refine XS.iload X0.here hx rfl (hb hby d34_97) rfl ?_
    refine XS.ifNo X0.here hx rfl (hb hby d34_99) rfl ((if0 _ _).trans (tlt hit).2.1) ?_
    refine XS.aloadN X0.here hx rfl (hb hby d34_102) rfl rfl ?_
    refine XS.iinc X0.here hx rfl (hb hby d34_103) rfl (l' := #[.val (.ref a1), .val (.int (0 : Int32)), .val (.int p3), .val (.int p4), .val (.int p5), .val (.int (x + (-1 : Int32))), .val (.int i), .unset]) rfl ?_
    exact k
  have K2 : ∀ t, Steps p.tables e below (T0.setTop (mkF m 106 #[.val (.ref a1), .val (.int (0 : Int32)), .val (.int p3), .val (.int p4), .val (.int p5), .val (.int (x - (1 : Int32))), .val (.int i), .unset] [(.ref a1)])) t → Steps p.tables e below (T0.setTop (mkF m 91 #[.val (.ref a1), .val (.int (0 : Int32)), .val (.int p3), .val (.int p4), .val (.int p5), .val (.int x), .val (.int i), .unset] [])) t := by have q := K1; rw [own_m1 x] at q; exact q
  have K3 : ∀ t, Steps p.tables e below (T0.setTop (mkF m 108 #[.val (.ref a1), .val (.int (0 : Int32)), .val (.int p3), .val (.int p4), .val (.int p5), .val (.int (x - (1 : Int32))), .val (.int i), .unset] [(.int (x - (1 : Int32))), (.ref a1)])) t → Steps p.tables e below (T0.setTop (mkF m 91 #[.val (.ref a1), .val (.int (0 : Int32)), .val (.int p3), .val (.int p4), .val (.int p5), .val (.int x), .val (.int i), .unset] [])) t := by
    intro t k
    refine K2 t ?_
    refine XS.iload X0.here hx rfl (hb hby d34_106) rfl ?_
    exact k
  obtain ⟨cl4, Ar4, qc4, S4, M4, Ha4, Ga4⟩ := id V1
  have hin4 : ¬ ((x - (1 : Int32)) < 0 ∨ cl4.slots.size ≤ ((x - (1 : Int32))).toNatClampNeg) := inb_of S4 (own_d1 hx0 hx4 hz).1
  have hat4 : cl4.slots[((x - (1 : Int32))).toNatClampNeg]? = some (.int (f (x - (1 : Int32)).toNatClampNeg)) := Ha4.at hin4 (hf _ (own_d1 hx0 hx4 hz).2)
  have K5 : ∀ t, Steps p.tables e below (T0.setTop (mkF m 109 #[.val (.ref a1), .val (.int (0 : Int32)), .val (.int p3), .val (.int p4), .val (.int p5), .val (.int (x - (1 : Int32))), .val (.int i), .unset] [(.int (f (x - (1 : Int32)).toNatClampNeg))])) t → Steps p.tables e below (T0.setTop (mkF m 91 #[.val (.ref a1), .val (.int (0 : Int32)), .val (.int p3), .val (.int p4), .val (.int p5), .val (.int x), .val (.int i), .unset] [])) t := fun t k => K3 t (X0.caload hx (j := (x - (1 : Int32))) (v := (.int (f (x - (1 : Int32)).toNatClampNeg))) (by rw [e0]; exact Ar4.1) (State.isArrayOf_alike hZ.alike Ar4.2.1) Ar4.2.2 hin4 hat4 (g := (mkF m 108 #[.val (.ref a1), .val (.int (0 : Int32)), .val (.int p3), .val (.int p4), .val (.int p5), .val (.int (x - (1 : Int32))), .val (.int i), .unset] [(.int (x - (1 : Int32))), (.ref a1)])) rfl rfl (hb hby d34_108) _ k)
  obtain ⟨_, _, ⟨T6, L6, kk6, nn6⟩, -, X6, ⟨Lc6, hQ6, lq6, yq6, zq6⟩, st6⟩ := Jvm.LawKit.callS X0 hx (y := (⟨"java/lang/Character", "isLowSurrogate", "(C)Z"⟩ : MethodName)) hown (mvT hZ (hw _ (List.mem_of_getElem? (i := 172) rfl))) (mvT hZ (hw _ (List.mem_of_getElem? (i := 173) rfl))) (mvT hZ (hw _ (List.mem_of_getElem? (i := 151) rfl))) (mvT hZ (hw _ (List.mem_of_getElem? (i := 174) rfl))) (by decide) (backOf (W := 0) (rm39 l Z a0 hw [] (f (x - (1 : Int32)).toNatClampNeg) h0 n0 Z0 ) hZ (hw _ (List.mem_of_getElem? (i := 174) rfl)) (hw _ (List.mem_of_getElem? (i := 151) rfl)) (by decide) (by decide)) (g := (mkF m 109 #[.val (.ref a1), .val (.int (0 : Int32)), .val (.int p3), .val (.int p4), .val (.int p5), .val (.int (x - (1 : Int32))), .val (.int i), .unset] [(.int (f (x - (1 : Int32)).toNatClampNeg))])) rfl (by rw [hml]; rfl) (argsL := [(.int (f (x - (1 : Int32)).toNatClampNeg))]) (rest := []) (lenOf pd_22 rfl) rfl (by show 2 * 0 + _ ≤ _; exact Nat.le_of_eq rfl) (hb hby d34_109) (fun _ _ => ⟨rfl, e0, (by decide : 0 + 0 ≤ _), (by decide : 0 + 0 ≤ _)⟩)
  dsimp only [Pt.U, Pt.locs, Pt.cells, Pt.slots] at X6 lq6 yq6 zq6 st6 hQ6
  subst lq6 yq6 zq6
  obtain ⟨rfl, Nq6, e6⟩ := hQ6
  have N7 := Fr.app N0 Nq6
  have K8 : ∀ t, Steps p.tables e below (T6.setTop (mkF m 112 #[.val (.ref a1), .val (.int (0 : Int32)), .val (.int p3), .val (.int p4), .val (.int p5), .val (.int (x - (1 : Int32))), .val (.int i), .unset] [(.int (own_lo (f (x - (1 : Int32)).toNatClampNeg)))])) t → Steps p.tables e below (T0.setTop (mkF m 91 #[.val (.ref a1), .val (.int (0 : Int32)), .val (.int p3), .val (.int p4), .val (.int p5), .val (.int x), .val (.int i), .unset] [])) t := fun t k => K5 t (st6 _ k)
  by_cases hc9 : (own_lo (f (x - (1 : Int32)).toNatClampNeg)) = (0 : Int32)
  · have K10 : ∀ t, Steps p.tables e below (T6.setTop (mkF m 91 #[.val (.ref a1), .val (.int (0 : Int32)), .val (.int p3), .val (.int p4), .val (.int p5), .val (.int (x - (1 : Int32))), .val (.int (i + (1 : Int32))), .unset] [])) t → Steps p.tables e below (T0.setTop (mkF m 91 #[.val (.ref a1), .val (.int (0 : Int32)), .val (.int p3), .val (.int p4), .val (.int p5), .val (.int x), .val (.int i), .unset] [])) t := by
      intro t k
      refine K8 t ?_
      refine XS.ifYes X6.here hx rfl (pc0 := 112) (pc' := 136) rfl (hb hby d34_112) rfl ((if0 _ _).trans (teq hc9).1) (by decide) (by decide) ?_
      refine XS.iinc X6.here hx rfl (hb hby d34_136) rfl (l' := #[.val (.ref a1), .val (.int (0 : Int32)), .val (.int p3), .val (.int p4), .val (.int p5), .val (.int (x - (1 : Int32))), .val (.int (i + (1 : Int32))), .unset]) rfl ?_
      refine XS.goto X6.here hx rfl (pc0 := 139) (pc' := 91) rfl (hb hby d34_139) (by decide) (by decide) ?_
      exact k
    have hF : own_B f x = (x - (1 : Int32)) := by simp only [own_B, if_pos hx0, if_pos hc9]
    rw [hF]
    exact ⟨_, _, X6, e6, N7, K10⟩
  · have K11 : ∀ t, Steps p.tables e below (T6.setTop (mkF m 118 #[.val (.ref a1), .val (.int (0 : Int32)), .val (.int p3), .val (.int p4), .val (.int p5), .val (.int (x - (1 : Int32))), .val (.int i), .unset] [(.int (0 : Int32)), (.int (x - (1 : Int32)))])) t → Steps p.tables e below (T0.setTop (mkF m 91 #[.val (.ref a1), .val (.int (0 : Int32)), .val (.int p3), .val (.int p4), .val (.int p5), .val (.int x), .val (.int i), .unset] [])) t := by
      intro t k
      refine K8 t ?_
      refine XS.ifNo X6.here hx rfl (hb hby d34_112) rfl ((if0 _ _).trans (feq hc9).1) ?_
      refine XS.iload X6.here hx rfl (hb hby d34_115) rfl ?_
      refine XS.iloadN X6.here hx rfl (hb hby d34_117) rfl ?_
      exact k
    by_cases hc12 : (0 : Int32) < (x - (1 : Int32))
    · have K13 : ∀ t, Steps p.tables e below (T6.setTop (mkF m 126 #[.val (.ref a1), .val (.int (0 : Int32)), .val (.int p3), .val (.int p4), .val (.int p5), .val (.int (x - (1 : Int32))), .val (.int i), .unset] [(.int ((x - (1 : Int32)) - (1 : Int32))), (.ref a1)])) t → Steps p.tables e below (T0.setTop (mkF m 91 #[.val (.ref a1), .val (.int (0 : Int32)), .val (.int p3), .val (.int p4), .val (.int p5), .val (.int x), .val (.int i), .unset] [])) t := by
        intro t k
        refine K11 t ?_
        refine XS.icmpNo X6.here hx rfl (hb hby d34_118) rfl (tlt hc12).2.2.2 ?_
        refine XS.aloadN X6.here hx rfl (hb hby d34_121) rfl rfl ?_
        refine XS.iload X6.here hx rfl (hb hby d34_122) rfl ?_
        refine XS.iconst X6.here hx rfl (hb hby d34_124) ?_
        refine XS.isub X6.here hx rfl (hb hby d34_125) rfl ?_
        exact k
      have K14 : ∀ t, Steps p.tables e below (T6.setTop (mkF m 126 #[.val (.ref a1), .val (.int (0 : Int32)), .val (.int p3), .val (.int p4), .val (.int p5), .val (.int (x - (1 : Int32))), .val (.int i), .unset] [(.int (x - (2 : Int32))), (.ref a1)])) t → Steps p.tables e below (T0.setTop (mkF m 91 #[.val (.ref a1), .val (.int (0 : Int32)), .val (.int p3), .val (.int p4), .val (.int p5), .val (.int x), .val (.int i), .unset] [])) t := by have q := K13; rw [own_m2 x] at q; exact q
      obtain ⟨cl15, Ar15, qc15, S15, M15, Ha15, Ga15⟩ := id V1
      have hin15 : ¬ ((x - (2 : Int32)) < 0 ∨ cl15.slots.size ≤ ((x - (2 : Int32))).toNatClampNeg) := inb_of S15 (own_d2 hx0 hc12 hx4 hz).1
      have hat15 : cl15.slots[((x - (2 : Int32))).toNatClampNeg]? = some (.int (f (x - (2 : Int32)).toNatClampNeg)) := Ha15.at hin15 (hf _ (own_d2 hx0 hc12 hx4 hz).2)
      have K16 : ∀ t, Steps p.tables e below (T6.setTop (mkF m 127 #[.val (.ref a1), .val (.int (0 : Int32)), .val (.int p3), .val (.int p4), .val (.int p5), .val (.int (x - (1 : Int32))), .val (.int i), .unset] [(.int (f (x - (2 : Int32)).toNatClampNeg))])) t → Steps p.tables e below (T0.setTop (mkF m 91 #[.val (.ref a1), .val (.int (0 : Int32)), .val (.int p3), .val (.int p4), .val (.int p5), .val (.int x), .val (.int i), .unset] [])) t := fun t k => K14 t (X6.caload hx (j := (x - (2 : Int32))) (v := (.int (f (x - (2 : Int32)).toNatClampNeg))) (by rw [e6]; exact Ar15.1) (State.isArrayOf_alike hZ.alike Ar15.2.1) Ar15.2.2 hin15 hat15 (g := (mkF m 126 #[.val (.ref a1), .val (.int (0 : Int32)), .val (.int p3), .val (.int p4), .val (.int p5), .val (.int (x - (1 : Int32))), .val (.int i), .unset] [(.int (x - (2 : Int32))), (.ref a1)])) rfl rfl (hb hby d34_126) _ k)
      obtain ⟨_, _, ⟨T17, L17, kk17, nn17⟩, -, X17, ⟨Lc17, hQ17, lq17, yq17, zq17⟩, st17⟩ := Jvm.LawKit.callS X6 hx (y := (⟨"java/lang/Character", "isHighSurrogate", "(C)Z"⟩ : MethodName)) hown (mvT hZ (hw _ (List.mem_of_getElem? (i := 162) rfl))) (mvT hZ (hw _ (List.mem_of_getElem? (i := 163) rfl))) (mvT hZ (hw _ (List.mem_of_getElem? (i := 151) rfl))) (mvT hZ (hw _ (List.mem_of_getElem? (i := 164) rfl))) (by decide) (backOf (W := 0) (rm37 l Z a0 hw [] (f (x - (2 : Int32)).toNatClampNeg) h0 n0 Z0 ) hZ (hw _ (List.mem_of_getElem? (i := 164) rfl)) (hw _ (List.mem_of_getElem? (i := 151) rfl)) (by decide) (by decide)) (g := (mkF m 127 #[.val (.ref a1), .val (.int (0 : Int32)), .val (.int p3), .val (.int p4), .val (.int p5), .val (.int (x - (1 : Int32))), .val (.int i), .unset] [(.int (f (x - (2 : Int32)).toNatClampNeg))])) rfl (by rw [hml]; rfl) (argsL := [(.int (f (x - (2 : Int32)).toNatClampNeg))]) (rest := []) (lenOf pd_22 rfl) rfl (by show 2 * 0 + _ ≤ _; exact Nat.le_of_eq rfl) (hb hby d34_127) (fun _ _ => ⟨rfl, e6, (by decide : 0 + 0 ≤ _), (by decide : 0 + 0 ≤ _)⟩)
      dsimp only [Pt.U, Pt.locs, Pt.cells, Pt.slots] at X17 lq17 yq17 zq17 st17 hQ17
      subst lq17 yq17 zq17
      obtain ⟨rfl, Nq17, e17⟩ := hQ17
      have N18 := Fr.app N7 Nq17
      have K19 : ∀ t, Steps p.tables e below (T17.setTop (mkF m 130 #[.val (.ref a1), .val (.int (0 : Int32)), .val (.int p3), .val (.int p4), .val (.int p5), .val (.int (x - (1 : Int32))), .val (.int i), .unset] [(.int (own_hi (f (x - (2 : Int32)).toNatClampNeg)))])) t → Steps p.tables e below (T0.setTop (mkF m 91 #[.val (.ref a1), .val (.int (0 : Int32)), .val (.int p3), .val (.int p4), .val (.int p5), .val (.int x), .val (.int i), .unset] [])) t := fun t k => K16 t (st17 _ k)
      by_cases hc20 : (own_hi (f (x - (2 : Int32)).toNatClampNeg)) = (0 : Int32)
      · have K21 : ∀ t, Steps p.tables e below (T17.setTop (mkF m 91 #[.val (.ref a1), .val (.int (0 : Int32)), .val (.int p3), .val (.int p4), .val (.int p5), .val (.int (x - (1 : Int32))), .val (.int (i + (1 : Int32))), .unset] [])) t → Steps p.tables e below (T0.setTop (mkF m 91 #[.val (.ref a1), .val (.int (0 : Int32)), .val (.int p3), .val (.int p4), .val (.int p5), .val (.int x), .val (.int i), .unset] [])) t := by
          intro t k
          refine K19 t ?_
          refine XS.ifYes X17.here hx rfl (pc0 := 130) (pc' := 136) rfl (hb hby d34_130) rfl ((if0 _ _).trans (teq hc20).1) (by decide) (by decide) ?_
          refine XS.iinc X17.here hx rfl (hb hby d34_136) rfl (l' := #[.val (.ref a1), .val (.int (0 : Int32)), .val (.int p3), .val (.int p4), .val (.int p5), .val (.int (x - (1 : Int32))), .val (.int (i + (1 : Int32))), .unset]) rfl ?_
          refine XS.goto X17.here hx rfl (pc0 := 139) (pc' := 91) rfl (hb hby d34_139) (by decide) (by decide) ?_
          exact k
        have hF : own_B f x = (x - (1 : Int32)) := by simp only [own_B, if_pos hx0, if_neg hc9, if_pos hc12, if_pos hc20]
        rw [hF]
        exact ⟨_, _, X17, e17, N18, K21⟩
      · have K22 : ∀ t, Steps p.tables e below (T17.setTop (mkF m 136 #[.val (.ref a1), .val (.int (0 : Int32)), .val (.int p3), .val (.int p4), .val (.int p5), .val (.int ((x - (1 : Int32)) + (-1 : Int32))), .val (.int i), .unset] [])) t → Steps p.tables e below (T0.setTop (mkF m 91 #[.val (.ref a1), .val (.int (0 : Int32)), .val (.int p3), .val (.int p4), .val (.int p5), .val (.int x), .val (.int i), .unset] [])) t := by
          intro t k
          refine K19 t ?_
          refine XS.ifNo X17.here hx rfl (hb hby d34_130) rfl ((if0 _ _).trans (feq hc20).1) ?_
          refine XS.iinc X17.here hx rfl (hb hby d34_133) rfl (l' := #[.val (.ref a1), .val (.int (0 : Int32)), .val (.int p3), .val (.int p4), .val (.int p5), .val (.int ((x - (1 : Int32)) + (-1 : Int32))), .val (.int i), .unset]) rfl ?_
          exact k
        have K23 : ∀ t, Steps p.tables e below (T17.setTop (mkF m 136 #[.val (.ref a1), .val (.int (0 : Int32)), .val (.int p3), .val (.int p4), .val (.int p5), .val (.int (x - (2 : Int32))), .val (.int i), .unset] [])) t → Steps p.tables e below (T0.setTop (mkF m 91 #[.val (.ref a1), .val (.int (0 : Int32)), .val (.int p3), .val (.int p4), .val (.int p5), .val (.int x), .val (.int i), .unset] [])) t := by have q := K22; rw [own_m3 x] at q; exact q
        have K24 : ∀ t, Steps p.tables e below (T17.setTop (mkF m 91 #[.val (.ref a1), .val (.int (0 : Int32)), .val (.int p3), .val (.int p4), .val (.int p5), .val (.int (x - (2 : Int32))), .val (.int (i + (1 : Int32))), .unset] [])) t → Steps p.tables e below (T0.setTop (mkF m 91 #[.val (.ref a1), .val (.int (0 : Int32)), .val (.int p3), .val (.int p4), .val (.int p5), .val (.int x), .val (.int i), .unset] [])) t := by
          intro t k
          refine K23 t ?_
          refine XS.iinc X17.here hx rfl (hb hby d34_136) rfl (l' := #[.val (.ref a1), .val (.int (0 : Int32)), .val (.int p3), .val (.int p4), .val (.int p5), .val (.int (x - (2 : Int32))), .val (.int (i + (1 : Int32))), .unset]) rfl ?_
          refine XS.goto X17.here hx rfl (pc0 := 139) (pc' := 91) rfl (hb hby d34_139) (by decide) (by decide) ?_
          exact k
        have hF : own_B f x = (x - (2 : Int32)) := by simp only [own_B, if_pos hx0, if_neg hc9, if_pos hc12, if_neg hc20]
        rw [hF]
        exact ⟨_, _, X17, e17, N18, K24⟩
    · have K25 : ∀ t, Steps p.tables e below (T6.setTop (mkF m 91 #[.val (.ref a1), .val (.int (0 : Int32)), .val (.int p3), .val (.int p4), .val (.int p5), .val (.int (x - (1 : Int32))), .val (.int (i + (1 : Int32))), .unset] [])) t → Steps p.tables e below (T0.setTop (mkF m 91 #[.val (.ref a1), .val (.int (0 : Int32)), .val (.int p3), .val (.int p4), .val (.int p5), .val (.int x), .val (.int i), .unset] [])) t := by
        intro t k
        refine K11 t ?_
        refine XS.icmpYes X6.here hx rfl (pc0 := 118) (pc' := 136) rfl (hb hby d34_118) rfl (flt hc12).2.2.2 (by decide) (by decide) ?_
        refine XS.iinc X6.here hx rfl (hb hby d34_136) rfl (l' := #[.val (.ref a1), .val (.int (0 : Int32)), .val (.int p3), .val (.int p4), .val (.int p5), .val (.int (x - (1 : Int32))), .val (.int (i + (1 : Int32))), .unset]) rfl ?_
        refine XS.goto X6.here hx rfl (pc0 := 139) (pc' := 91) rfl (hb hby d34_139) (by decide) (by decide) ?_
        exact k
      have hF : own_B f x = (x - (1 : Int32)) := by simp only [own_B, if_pos hx0, if_neg hc9, if_neg hc12]
      rw [hF]
      exact ⟨_, _, X6, e6, N7, K25⟩
set_option maxRecDepth 65536 in
set_option maxHeartbeats 40000000 in
theorem own_lbE (l : Launch) (Z : State) (a0 : Array Value) (hw : ∀ d ∈ tables_1, d.before a0 Z = true) (a1 : Addr) (p3 p4 p5 : Int32) (k1 : ClassId) (z : Int32) (vs : List Value) (f : Nat → Int32) (h0 : Heap) (n0 : Nat) (Z0 : n0 ≤ h0.size) (V1 : Arv Z h0 a1 k1 .char z vs (Value.int (0 : Int32))) (hf : ∀ j : Nat, j < 4 → vs.getD j (Value.int (0 : Int32)) = .int (f j)) (hz : ¬ z < 4) (hn : p3.toInt ≤ 4) {p : Program} {e : Env} {s : State} {m : MethodId} {args : Array Value} {below : List Frame} {meth : Method} {c : Code} (hx : p.tables.exec = Jvm.exec) (hZ : Z.Warmed39 s.vm) (hby : c.code = jdk_89_method_38_code) (hml : c.maxLocals = 8) (hown : s.vm.findClass "java/lang/Character" = some m.cls) {T0 : State} {locs : List Loc} (X0 : Stand p l e ({ frames := 1, cells := 0, slots := 0, locals := 12 } : Room) s m args below meth c T0 locs 0 0) (e0 : T0.heap = h0) (N0 : Fr n0 locs) (i x : Int32) (hit : ¬ i < 0) : ∃ (T' : State) (locs' : List Loc), Stand p l e ({ frames := 1, cells := 0, slots := 0, locals := 12 } : Room) s m args below meth c T' locs' 0 0 ∧ T'.heap = h0 ∧ Fr n0 locs' ∧ ∀ t, Steps p.tables e below (T'.setTop (mkF m 155 #[.val (.ref a1), .val (.int (0 : Int32)), .val (.int p3), .val (.int p4), .val (.int p5), .val (.int x), .val (.int i), .unset] [])) t → Steps p.tables e below (T0.setTop (mkF m 91 #[.val (.ref a1), .val (.int (0 : Int32)), .val (.int p3), .val (.int p4), .val (.int p5), .val (.int x), .val (.int i), .unset] [])) t := by
  have KP0 : Keep h0 h0 [] := Keep.refl h0 _
  have pre0 : ∀ t, Steps p.tables e below (T0.setTop (mkF m 91 #[.val (.ref a1), .val (.int (0 : Int32)), .val (.int p3), .val (.int p4), .val (.int p5), .val (.int x), .val (.int i), .unset] [])) t → Steps p.tables e below (T0.setTop (mkF m 91 #[.val (.ref a1), .val (.int (0 : Int32)), .val (.int p3), .val (.int p4), .val (.int p5), .val (.int x), .val (.int i), .unset] [])) t := fun t k => k
  have K1 : ∀ t, Steps p.tables e below (T0.setTop (mkF m 94 #[.val (.ref a1), .val (.int (0 : Int32)), .val (.int p3), .val (.int p4), .val (.int p5), .val (.int x), .val (.int i), .unset] [(.int (0 : Int32)), (.int x)])) t → Steps p.tables e below (T0.setTop (mkF m 91 #[.val (.ref a1), .val (.int (0 : Int32)), .val (.int p3), .val (.int p4), .val (.int p5), .val (.int x), .val (.int i), .unset] [])) t := by
    intro t k
    refine pre0 t ?_
    refine XS.iload X0.here hx rfl (hb hby d34_91) rfl ?_
    refine XS.iloadN X0.here hx rfl (hb hby d34_93) rfl ?_
    exact k
  by_cases hc2 : (0 : Int32) < x
  · have K3 : ∀ t, Steps p.tables e below (T0.setTop (mkF m 155 #[.val (.ref a1), .val (.int (0 : Int32)), .val (.int p3), .val (.int p4), .val (.int p5), .val (.int x), .val (.int i), .unset] [])) t → Steps p.tables e below (T0.setTop (mkF m 91 #[.val (.ref a1), .val (.int (0 : Int32)), .val (.int p3), .val (.int p4), .val (.int p5), .val (.int x), .val (.int i), .unset] [])) t := by
      intro t k
      refine K1 t ?_
      refine XS.icmpNo X0.here hx rfl (hb hby d34_94) rfl (tlt hc2).2.2.2 ?_
      refine XS.iload X0.here hx rfl (hb hby d34_97) rfl ?_
      refine XS.ifYes X0.here hx rfl (pc0 := 99) (pc' := 142) rfl (hb hby d34_99) rfl ((if0 _ _).trans (flt hit).2.1) (by decide) (by decide) ?_
      refine XS.iload X0.here hx rfl (hb hby d34_142) rfl ?_
      refine XS.ifYes X0.here hx rfl (pc0 := 144) (pc' := 155) rfl (hb hby d34_144) rfl ((if0 _ _).trans (flt hit).2.1) (by decide) (by decide) ?_
      exact k
    exact ⟨_, _, X0, e0, N0, K3⟩
  · have K4 : ∀ t, Steps p.tables e below (T0.setTop (mkF m 155 #[.val (.ref a1), .val (.int (0 : Int32)), .val (.int p3), .val (.int p4), .val (.int p5), .val (.int x), .val (.int i), .unset] [])) t → Steps p.tables e below (T0.setTop (mkF m 91 #[.val (.ref a1), .val (.int (0 : Int32)), .val (.int p3), .val (.int p4), .val (.int p5), .val (.int x), .val (.int i), .unset] [])) t := by
      intro t k
      refine K1 t ?_
      refine XS.icmpYes X0.here hx rfl (pc0 := 94) (pc' := 142) rfl (hb hby d34_94) rfl (flt hc2).2.2.2 (by decide) (by decide) ?_
      refine XS.iload X0.here hx rfl (hb hby d34_142) rfl ?_
      refine XS.ifYes X0.here hx rfl (pc0 := 144) (pc' := 155) rfl (hb hby d34_144) rfl ((if0 _ _).trans (flt hit).2.1) (by decide) (by decide) ?_
      exact k
    exact ⟨_, _, X0, e0, N0, K4⟩
theorem own_i1 {i t : Int32} (h : i.toInt < t.toInt) : (i + (1 : Int32)).toInt = i.toInt + 1 := by
  have z1 : (1 : Int32).toInt = 1 := rfl
  have a := c_iadd i 1; have r := rng32 (i + 1); have r2 := rng32 t; have r3 := rng32 i
  omega
theorem own_lf (l : Launch) (Z : State) (a0 : Array Value) (hw : ∀ d ∈ tables_1, d.before a0 Z = true) (a1 : Addr) (p3 p4 p5 : Int32) (k1 : ClassId) (z : Int32) (vs : List Value) (f : Nat → Int32) (h0 : Heap) (n0 : Nat) (Z0 : n0 ≤ h0.size) (V1 : Arv Z h0 a1 k1 .char z vs (Value.int (0 : Int32))) (hf : ∀ j : Nat, j < 4 → vs.getD j (Value.int (0 : Int32)) = .int (f j)) (hz : ¬ z < 4) (hn : p3.toInt ≤ 4) {p : Program} {e : Env} {s : State} {m : MethodId} {args : Array Value} {below : List Frame} {meth : Method} {c : Code} (hx : p.tables.exec = Jvm.exec) (hZ : Z.Warmed39 s.vm) (hby : c.code = jdk_89_method_38_code) (hml : c.maxLocals = 8) (hown : s.vm.findClass "java/lang/Character" = some m.cls) : ∀ (kk : Nat) (T0 : State) (locs : List Loc) (X0 : Stand p l e ({ frames := 1, cells := 0, slots := 0, locals := 12 } : Room) s m args below meth c T0 locs 0 0) (e0 : T0.heap = h0) (N0 : Fr n0 locs) (i x : Int32) (hi : i.toInt + kk = p5.toInt) (hr : ¬ own_it (own_F f p3) kk x < 0), ∃ i' : Int32, ∃ (T' : State) (locs' : List Loc), Stand p l e ({ frames := 1, cells := 0, slots := 0, locals := 12 } : Room) s m args below meth c T' locs' 0 0 ∧ T'.heap = h0 ∧ Fr n0 locs' ∧ ∀ t, Steps p.tables e below (T'.setTop (mkF m 155 #[.val (.ref a1), .val (.int (0 : Int32)), .val (.int p3), .val (.int p4), .val (.int p5), .val (.int (own_it (own_F f p3) kk x)), .val (.int p3), .val (.int i')] [])) t → Steps p.tables e below (T0.setTop (mkF m 16 #[.val (.ref a1), .val (.int (0 : Int32)), .val (.int p3), .val (.int p4), .val (.int p5), .val (.int x), .val (.int p3), .val (.int i)] [])) t
  | 0, T0, locs, X0, e0, N0, i, x, hi, hr => ⟨i, own_lfE l Z a0 hw a1 p3 p4 p5 k1 z vs f h0 n0 Z0 V1 hf hz hn hx hZ hby hml hown X0 e0 N0 i x (by rw [Int32.lt_iff_toInt_lt]; omega)⟩
  | k + 1, T0, locs, X0, e0, N0, i, x, hi, hr => by
    have hit : i.toInt < p5.toInt := by omega
    obtain ⟨T1, L1, X1, e1, N1, s1⟩ := own_lfS l Z a0 hw a1 p3 p4 p5 k1 z vs f h0 n0 Z0 V1 hf hz hn hx hZ hby hml hown X0 e0 N0 i x (own_Fpos hr).1 (own_Fpos hr).2 (by rw [Int32.lt_iff_toInt_lt]; exact hit)
    obtain ⟨i', T2, L2, X2, e2, N2, s2⟩ := own_lf l Z a0 hw a1 p3 p4 p5 k1 z vs f h0 n0 Z0 V1 hf hz hn hx hZ hby hml hown k T1 L1 X1 e1 N1 (i + 1) (own_F f p3 x) (by rw [own_i1 hit]; omega) hr
    exact ⟨i', T2, L2, X2, e2, N2, fun t q => s1 t (s2 t q)⟩
theorem own_lpb (l : Launch) (Z : State) (a0 : Array Value) (hw : ∀ d ∈ tables_1, d.before a0 Z = true) (a1 : Addr) (p3 p4 p5 : Int32) (k1 : ClassId) (z : Int32) (vs : List Value) (f : Nat → Int32) (h0 : Heap) (n0 : Nat) (Z0 : n0 ≤ h0.size) (V1 : Arv Z h0 a1 k1 .char z vs (Value.int (0 : Int32))) (hf : ∀ j : Nat, j < 4 → vs.getD j (Value.int (0 : Int32)) = .int (f j)) (hz : ¬ z < 4) (hn : p3.toInt ≤ 4) {p : Program} {e : Env} {s : State} {m : MethodId} {args : Array Value} {below : List Frame} {meth : Method} {c : Code} (hx : p.tables.exec = Jvm.exec) (hZ : Z.Warmed39 s.vm) (hby : c.code = jdk_89_method_38_code) (hml : c.maxLocals = 8) (hown : s.vm.findClass "java/lang/Character" = some m.cls) : ∀ (kk : Nat) (T0 : State) (locs : List Loc) (X0 : Stand p l e ({ frames := 1, cells := 0, slots := 0, locals := 12 } : Room) s m args below meth c T0 locs 0 0) (e0 : T0.heap = h0) (N0 : Fr n0 locs) (i x : Int32) (hi : i.toInt = -(kk : Int)) (hx4 : x.toInt ≤ 4) (hr : ¬ own_it (own_B f) kk x < 0), ∃ i' : Int32, ∃ (T' : State) (locs' : List Loc), Stand p l e ({ frames := 1, cells := 0, slots := 0, locals := 12 } : Room) s m args below meth c T' locs' 0 0 ∧ T'.heap = h0 ∧ Fr n0 locs' ∧ ∀ t, Steps p.tables e below (T'.setTop (mkF m 155 #[.val (.ref a1), .val (.int (0 : Int32)), .val (.int p3), .val (.int p4), .val (.int p5), .val (.int (own_it (own_B f) kk x)), .val (.int i'), .unset] [])) t → Steps p.tables e below (T0.setTop (mkF m 91 #[.val (.ref a1), .val (.int (0 : Int32)), .val (.int p3), .val (.int p4), .val (.int p5), .val (.int x), .val (.int i), .unset] [])) t
  | 0, T0, locs, X0, e0, N0, i, x, hi, hx4, hr => ⟨i, own_lbE l Z a0 hw a1 p3 p4 p5 k1 z vs f h0 n0 Z0 V1 hf hz hn hx hZ hby hml hown X0 e0 N0 i x (by rw [Int32.lt_iff_toInt_lt]; have z0 : (0 : Int32).toInt = 0 := rfl; omega)⟩
  | k + 1, T0, locs, X0, e0, N0, i, x, hi, hx4, hr => by
    have z0 : (0 : Int32).toInt = 0 := rfl
    have hit : i.toInt < (0 : Int32).toInt := by omega
    obtain ⟨T1, L1, X1, e1, N1, s1⟩ := own_lbS l Z a0 hw a1 p3 p4 p5 k1 z vs f h0 n0 Z0 V1 hf hz hn hx hZ hby hml hown X0 e0 N0 i x (own_Bpos hr) hx4 (by rw [Int32.lt_iff_toInt_lt]; exact hit)
    obtain ⟨i', T2, L2, X2, e2, N2, s2⟩ := own_lpb l Z a0 hw a1 p3 p4 p5 k1 z vs f h0 n0 Z0 V1 hf hz hn hx hZ hby hml hown k T1 L1 X1 e1 N1 (i + 1) (own_B f x) (by rw [own_i1 hit]; omega) (own_B4 (own_Bpos hr) hx4) hr
    exact ⟨i', T2, L2, X2, e2, N2, fun t q => s1 t (s2 t q)⟩
def Q34 (a1 : Addr) (p3 p4 p5 : Int32) (k1 : ClassId) (z : Int32) (vs : List Value) (f : Nat → Int32) (r : Int32) (h0 : Heap) (n0 : Nat) (v : Option Value) (h : Heap) (L : List Loc) : Prop := v = some (.int r) ∧ Fr n0 L ∧ h = h0
theorem ef_rm34 (m : MethodId) (x0 : Addr) (x2 : Int32) (x3 : Int32) (x4 : Int32) : entryFrame m #[(.ref x0), (.int (0 : Int32)), (.int x2), (.int x3), (.int x4)] 8 = mkF m 0 #[.val (.ref x0), .val (.int (0 : Int32)), .val (.int x2), .val (.int x3), .val (.int x4), .unset, .unset, .unset] [] := by first | (simp [entryFrame, mkF, argsToLocals, Value.category]; done) | rfl
set_option maxRecDepth 65536 in
set_option maxHeartbeats 40000000 in
theorem rm34 (l : Launch) (Z : State) (a0 : Array Value) (hw : ∀ d ∈ tables_1, d.before a0 Z = true) (ws : List Jvm.Cond) (a1 : Addr) (p3 p4 p5 : Int32) (k1 : ClassId) (z : Int32) (vs : List Value) (f : Nat → Int32) (r : Int32) (h0 : Heap) (n0 : Nat) (Z0 : n0 ≤ h0.size) (V1 : Arv Z h0 a1 k1 .char z vs (Value.int (0 : Int32))) (hf : ∀ j : Nat, j < 4 → vs.getD j (Value.int (0 : Int32)) = .int (f j)) (hz : ¬ z < 4) (hn4 : 0 ≤ p3.toInt ∧ p3.toInt ≤ 4) (hx4 : 0 ≤ p4.toInt ∧ p4.toInt ≤ p3.toInt) (hrr : (∃ kk : Nat, p5.toInt = kk ∧ r = own_it (own_F f p3) kk p4 ∧ ¬ r < 0) ∨ (∃ kk : Nat, 0 < kk ∧ p5.toInt = -(kk : Int) ∧ r = own_it (own_B f) kk p4 ∧ ¬ r < 0)) :
    MetFree l (⟨"java/lang/Character", "offsetByCodePointsImpl", "([CIIII)I"⟩ : MethodName) (head1 (Jvm.Cond.code (⟨"java/lang/Character", "offsetByCodePointsImpl", "([CIIII)I"⟩ : MethodName) jdk_89_method_38_code 8 (some .int) :: ws) ({ frames := 1, cells := 0, slots := 0, locals := 12 } : Room)) (fun a U => a = #[(.ref a1), (.int (0 : Int32)), (.int p3), (.int p4), (.int p5)] ∧ Z.Warmed39 U.vm ∧ U.heap = h0) (fun _ _ _ _ _ => True) (fun _ U o U' => ∃ v L, o = .returned v ∧ Q34 a1 p3 p4 p5 k1 z vs f r h0 n0 v U'.heap L ∧ FrameEnd U o U' L ({ frames := 1, cells := 0, slots := 0, locals := 12 } : Room).cells ({ frames := 1, cells := 0, slots := 0, locals := 12 } : Room).slots) := by
  refine MetFree.of_bodySF (plainFor_of_name pn_java_lang_Character) hisR ?_
  intro p e s m args below meth c s₁ Bd hml0 hP hK
  obtain ⟨rfl, hZ, hh⟩ := hP
  have hx := Bd.exec
  have hby := Bd.bytes
  have hml : c.maxLocals = 8 := hml0
  have hown : s.vm.findClass "java/lang/Character" = some m.cls := findClass_of_methodNamed Bd.named
  have hnm := (name_of_methodNamed Bd.named Bd.method).1
  have X0 : Stand p l e ({ frames := 1, cells := 0, slots := 0, locals := 12 } : Room) s m #[(.ref a1), (.int (0 : Int32)), (.int p3), (.int p4), (.int p5)] below meth c s₁ [] 0 0 := Stand.of_body Bd
  have e0 : s₁.heap = h0 := by rw [← hh, Bd.state]; rfl
  have N0 := Fr.nil n0
  have KP0 : Keep h0 h0 [] := Keep.refl h0 _
  obtain ⟨G, hG⟩ : ∃ G : State, G = s₁.setTop (entryFrame m #[(.ref a1), (.int (0 : Int32)), (.int p3), (.int p4), (.int p5)] 8) := ⟨_, rfl⟩
  have pre0 : ∀ t, Steps p.tables e below (s₁.setTop (mkF m 0 #[.val (.ref a1), .val (.int (0 : Int32)), .val (.int p3), .val (.int p4), .val (.int p5), .unset, .unset, .unset] [])) t → Steps p.tables e below G t := fun t k => hG ▸ castTop (ef_rm34 m a1 p3 p4 p5) k
  have hn := hn4.2
  rcases hrr with ⟨kk, h5, hrr, hr0⟩ | ⟨kk, hk0, h5, hrr, hr0⟩
  · have K1 : ∀ t, Steps p.tables e below (s₁.setTop (mkF m 13 #[.val (.ref a1), .val (.int (0 : Int32)), .val (.int p3), .val (.int p4), .val (.int p5), .val (.int p4), .val (.int ((0 : Int32) + p3)), .unset] [])) t → Steps p.tables e below G t := by
      intro t k
      refine pre0 t ?_
      refine XS.iloadN X0.here hx rfl (hb hby d34_0) rfl ?_
      refine XS.istore X0.here hx rfl (hb hby d34_1) rfl (l' := #[.val (.ref a1), .val (.int (0 : Int32)), .val (.int p3), .val (.int p4), .val (.int p5), .val (.int p4), .unset, .unset]) rfl ?_
      refine XS.iload X0.here hx rfl (hb hby d34_3) rfl ?_
      refine XS.ifNo X0.here hx rfl (hb hby d34_5) rfl ((if0 _ _).trans (flt (by rw [Int32.lt_iff_toInt_lt]; have z0 : (0 : Int32).toInt = 0 := rfl; omega)).1) ?_
      refine XS.iloadN X0.here hx rfl (hb hby d34_8) rfl ?_
      refine XS.iloadN X0.here hx rfl (hb hby d34_9) rfl ?_
      refine XS.iadd X0.here hx rfl (hb hby d34_10) rfl ?_
      refine XS.istore X0.here hx rfl (hb hby d34_11) rfl (l' := #[.val (.ref a1), .val (.int (0 : Int32)), .val (.int p3), .val (.int p4), .val (.int p5), .val (.int p4), .val (.int ((0 : Int32) + p3)), .unset]) rfl ?_
      exact k
    have K2 : ∀ t, Steps p.tables e below (s₁.setTop (mkF m 13 #[.val (.ref a1), .val (.int (0 : Int32)), .val (.int p3), .val (.int p4), .val (.int p5), .val (.int p4), .val (.int p3), .unset] [])) t → Steps p.tables e below G t := by have q := K1; rw [Int32.zero_add p3] at q; exact q
    have K3 : ∀ t, Steps p.tables e below (s₁.setTop (mkF m 16 #[.val (.ref a1), .val (.int (0 : Int32)), .val (.int p3), .val (.int p4), .val (.int p5), .val (.int p4), .val (.int p3), .val (.int (0 : Int32))] [])) t → Steps p.tables e below G t := by
      intro t k
      refine K2 t ?_
      refine XS.iconst X0.here hx rfl (hb hby d34_13) ?_
      refine XS.istore X0.here hx rfl (hb hby d34_14) rfl (l' := #[.val (.ref a1), .val (.int (0 : Int32)), .val (.int p3), .val (.int p4), .val (.int p5), .val (.int p4), .val (.int p3), .val (.int (0 : Int32))]) rfl ?_
      exact k
    obtain ⟨i9, T9, L9, X9, e9, N9, st9⟩ := own_lf l Z a0 hw a1 p3 p4 p5 k1 z vs f h0 n0 Z0 V1 hf hz hn hx hZ hby hml hown kk _ _ X0 e0 N0 (0 : Int32) p4 (by show (0 : Int) + kk = _; omega) (hrr ▸ hr0)
    have K4 : ∀ t, Steps p.tables e below (T9.setTop (mkF m 155 #[.val (.ref a1), .val (.int (0 : Int32)), .val (.int p3), .val (.int p4), .val (.int p5), .val (.int (own_it (own_F f p3) kk p4)), .val (.int p3), .val (.int i9)] [])) t → Steps p.tables e below G t := fun t k => K3 t (st9 t k)
    obtain ⟨fs, hr, hrun, hended, hW, hsame⟩ := X9.leave (v := some (.int (own_it (own_F f p3) kk p4))) (fun h => by rw [Bd.returns] at h; cases h)
    have KF := K4
    rw [hG] at KF
    refine ⟨_, _, KF _ ?_, hrun, hended, _, _, rfl, ?_, ⟨_, rfl⟩, hW, hsame.mono (by decide) (by decide)⟩
    · refine XS.iload X9.here hx rfl (hb hby d34_155) rfl ?_
      show Steps p.tables e below (T9.setTop (mkF m 157 #[.val (.ref a1), .val (.int (0 : Int32)), .val (.int p3), .val (.int p4), .val (.int p5), .val (.int (own_it (own_F f p3) kk p4)), .val (.int p3), .val (.int i9)] [(.int (own_it (own_F f p3) kk p4))])) _
      exact own_retI X9 hx Bd.returns (hb hby d34_157) hr
    · show Q34 a1 p3 p4 p5 k1 z vs f r h0 n0 _ T9.heap _
      rw [e9]
      exact ⟨by rw [hrr], N9, rfl⟩
  · have K5 : ∀ t, Steps p.tables e below (s₁.setTop (mkF m 91 #[.val (.ref a1), .val (.int (0 : Int32)), .val (.int p3), .val (.int p4), .val (.int p5), .val (.int p4), .val (.int p5), .unset] [])) t → Steps p.tables e below G t := by
      intro t k
      refine pre0 t ?_
      refine XS.iloadN X0.here hx rfl (hb hby d34_0) rfl ?_
      refine XS.istore X0.here hx rfl (hb hby d34_1) rfl (l' := #[.val (.ref a1), .val (.int (0 : Int32)), .val (.int p3), .val (.int p4), .val (.int p5), .val (.int p4), .unset, .unset]) rfl ?_
      refine XS.iload X0.here hx rfl (hb hby d34_3) rfl ?_
      refine XS.ifYes X0.here hx rfl (pc0 := 5) (pc' := 87) rfl (hb hby d34_5) rfl ((if0 _ _).trans (tlt (by rw [Int32.lt_iff_toInt_lt]; have z0 : (0 : Int32).toInt = 0 := rfl; omega)).1) (by decide) (by decide) ?_
      refine XS.iload X0.here hx rfl (hb hby d34_87) rfl ?_
      refine XS.istore X0.here hx rfl (hb hby d34_89) rfl (l' := #[.val (.ref a1), .val (.int (0 : Int32)), .val (.int p3), .val (.int p4), .val (.int p5), .val (.int p4), .val (.int p5), .unset]) rfl ?_
      exact k
    obtain ⟨i9, T9, L9, X9, e9, N9, st9⟩ := own_lpb l Z a0 hw a1 p3 p4 p5 k1 z vs f h0 n0 Z0 V1 hf hz hn hx hZ hby hml hown kk _ _ X0 e0 N0 p5 p4 h5 (by omega) (hrr ▸ hr0)
    have K6 : ∀ t, Steps p.tables e below (T9.setTop (mkF m 155 #[.val (.ref a1), .val (.int (0 : Int32)), .val (.int p3), .val (.int p4), .val (.int p5), .val (.int (own_it (own_B f) kk p4)), .val (.int i9), .unset] [])) t → Steps p.tables e below G t := fun t k => K5 t (st9 t k)
    obtain ⟨fs, hr, hrun, hended, hW, hsame⟩ := X9.leave (v := some (.int (own_it (own_B f) kk p4))) (fun h => by rw [Bd.returns] at h; cases h)
    have KF := K6
    rw [hG] at KF
    refine ⟨_, _, KF _ ?_, hrun, hended, _, _, rfl, ?_, ⟨_, rfl⟩, hW, hsame.mono (by decide) (by decide)⟩
    · refine XS.iload X9.here hx rfl (hb hby d34_155) rfl ?_
      show Steps p.tables e below (T9.setTop (mkF m 157 #[.val (.ref a1), .val (.int (0 : Int32)), .val (.int p3), .val (.int p4), .val (.int p5), .val (.int (own_it (own_B f) kk p4)), .val (.int i9), .unset] [(.int (own_it (own_B f) kk p4))])) _
      exact own_retI X9 hx Bd.returns (hb hby d34_157) hr
    · show Q34 a1 p3 p4 p5 k1 z vs f r h0 n0 _ T9.heap _
      rw [e9]
      exact ⟨by rw [hrr], N9, rfl⟩
theorem own_c33 {n i z : Int32} (hn : 0 ≤ n.toInt ∧ n.toInt ≤ 4) (hi : 0 ≤ i.toInt ∧ i.toInt ≤ n.toInt) (hz : ¬ z < 4) : ¬ (z - (0 : Int32)) < n ∧ ¬ n < 0 ∧ ¬ i < 0 ∧ ¬ ((0 : Int32) + n) < i := by
  have z0 : (0 : Int32).toInt = 0 := rfl
  have z4 : (4 : Int32).toInt = 4 := rfl
  rw [Int32.zero_add, Int32.sub_zero]
  simp only [Int32.lt_iff_toInt_lt] at *; omega
def Q33 (a1 : Addr) (p3 p4 p5 : Int32) (k1 : ClassId) (z : Int32) (vs : List Value) (f : Nat → Int32) (r : Int32) (h0 : Heap) (n0 : Nat) (v : Option Value) (h : Heap) (L : List Loc) : Prop := v = some (.int r) ∧ Fr n0 L ∧ h = h0
theorem d33_0 : decode jdk_89_method_37_code 0 = .ok (.iload_n 2, 1) := by decide +kernel
theorem d33_1 : decode jdk_89_method_37_code 1 = .ok (.aload_n 0, 1) := by decide +kernel
theorem d33_2 : decode jdk_89_method_37_code 2 = .ok (.arraylength, 1) := by decide +kernel
theorem d33_3 : decode jdk_89_method_37_code 3 = .ok (.iload_n 1, 1) := by decide +kernel
theorem d33_4 : decode jdk_89_method_37_code 4 = .ok (.isub, 1) := by decide +kernel
theorem d33_5 : decode jdk_89_method_37_code 5 = .ok (.if_icmp .gt 23, 3) := by decide +kernel
theorem d33_8 : decode jdk_89_method_37_code 8 = .ok (.iload_n 1, 1) := by decide +kernel
theorem d33_9 : decode jdk_89_method_37_code 9 = .ok (.ifCond .lt 19, 3) := by decide +kernel
theorem d33_12 : decode jdk_89_method_37_code 12 = .ok (.iload_n 2, 1) := by decide +kernel
theorem d33_13 : decode jdk_89_method_37_code 13 = .ok (.ifCond .lt 15, 3) := by decide +kernel
theorem d33_16 : decode jdk_89_method_37_code 16 = .ok (.iload_n 3, 1) := by decide +kernel
theorem d33_17 : decode jdk_89_method_37_code 17 = .ok (.iload_n 1, 1) := by decide +kernel
theorem d33_18 : decode jdk_89_method_37_code 18 = .ok (.if_icmp .lt 10, 3) := by decide +kernel
theorem d33_21 : decode jdk_89_method_37_code 21 = .ok (.iload_n 3, 1) := by decide +kernel
theorem d33_22 : decode jdk_89_method_37_code 22 = .ok (.iload_n 1, 1) := by decide +kernel
theorem d33_23 : decode jdk_89_method_37_code 23 = .ok (.iload_n 2, 1) := by decide +kernel
theorem d33_24 : decode jdk_89_method_37_code 24 = .ok (.iadd, 1) := by decide +kernel
theorem d33_25 : decode jdk_89_method_37_code 25 = .ok (.if_icmp .le 11, 3) := by decide +kernel
theorem d33_28 : decode jdk_89_method_37_code 28 = .ok (.new 104, 3) := by decide +kernel
theorem d33_31 : decode jdk_89_method_37_code 31 = .ok (.dup, 1) := by decide +kernel
theorem d33_32 : decode jdk_89_method_37_code 32 = .ok (.invokespecial 106, 3) := by decide +kernel
theorem d33_35 : decode jdk_89_method_37_code 35 = .ok (.athrow, 1) := by decide +kernel
theorem d33_36 : decode jdk_89_method_37_code 36 = .ok (.aload_n 0, 1) := by decide +kernel
theorem d33_37 : decode jdk_89_method_37_code 37 = .ok (.iload_n 1, 1) := by decide +kernel
theorem d33_38 : decode jdk_89_method_37_code 38 = .ok (.iload_n 2, 1) := by decide +kernel
theorem d33_39 : decode jdk_89_method_37_code 39 = .ok (.iload_n 3, 1) := by decide +kernel
theorem d33_40 : decode jdk_89_method_37_code 40 = .ok (.iload 4, 2) := by decide +kernel
theorem d33_42 : decode jdk_89_method_37_code 42 = .ok (.invokestatic 151, 3) := by decide +kernel
theorem d33_45 : decode jdk_89_method_37_code 45 = .ok (.ireturn, 1) := by decide +kernel
theorem pd_23 : parseMethodDescriptor "([CIIII)I" = some ⟨[(.array .char), .int, .int, .int, .int], some .int⟩ := by decide +kernel
theorem ef_rm33 (m : MethodId) (x0 : Addr) (x2 : Int32) (x3 : Int32) (x4 : Int32) : entryFrame m #[(.ref x0), (.int (0 : Int32)), (.int x2), (.int x3), (.int x4)] 5 = mkF m 0 #[.val (.ref x0), .val (.int (0 : Int32)), .val (.int x2), .val (.int x3), .val (.int x4)] [] := by first | (simp [entryFrame, mkF, argsToLocals, Value.category]; done) | rfl
set_option maxRecDepth 65536 in
set_option maxHeartbeats 40000000 in
theorem rm33 (l : Launch) (Z : State) (a0 : Array Value) (hw : ∀ d ∈ tables_1, d.before a0 Z = true) (ws : List Jvm.Cond) (a1 : Addr) (p3 p4 p5 : Int32) (k1 : ClassId) (z : Int32) (vs : List Value) (f : Nat → Int32) (r : Int32) (h0 : Heap) (n0 : Nat) (Z0 : n0 ≤ h0.size) (V1 : Arv Z h0 a1 k1 .char z vs (Value.int (0 : Int32))) (hf : ∀ j : Nat, j < 4 → vs.getD j (Value.int (0 : Int32)) = .int (f j)) (hz : ¬ z < 4) (hn4 : 0 ≤ p3.toInt ∧ p3.toInt ≤ 4) (hx4 : 0 ≤ p4.toInt ∧ p4.toInt ≤ p3.toInt) (hrr : (∃ kk : Nat, p5.toInt = kk ∧ r = own_it (own_F f p3) kk p4 ∧ ¬ r < 0) ∨ (∃ kk : Nat, 0 < kk ∧ p5.toInt = -(kk : Int) ∧ r = own_it (own_B f) kk p4 ∧ ¬ r < 0)) :
    MetFree l (⟨"java/lang/Character", "offsetByCodePoints", "([CIIII)I"⟩ : MethodName) (head1 (Jvm.Cond.code (⟨"java/lang/Character", "offsetByCodePoints", "([CIIII)I"⟩ : MethodName) jdk_89_method_37_code 5 (some .int) :: ws) ({ frames := 2, cells := 0, slots := 0, locals := 31 } : Room)) (fun a U => a = #[(.ref a1), (.int (0 : Int32)), (.int p3), (.int p4), (.int p5)] ∧ Z.Warmed39 U.vm ∧ U.heap = h0) (fun _ _ _ _ _ => True) (fun _ U o U' => ∃ v L, o = .returned v ∧ Q33 a1 p3 p4 p5 k1 z vs f r h0 n0 v U'.heap L ∧ FrameEnd U o U' L ({ frames := 2, cells := 0, slots := 0, locals := 31 } : Room).cells ({ frames := 2, cells := 0, slots := 0, locals := 31 } : Room).slots) := by
  refine MetFree.of_bodySF (plainFor_of_name pn_java_lang_Character) hisR ?_
  intro p e s m args below meth c s₁ Bd hml0 hP hK
  obtain ⟨rfl, hZ, hh⟩ := hP
  have hx := Bd.exec
  have hby := Bd.bytes
  have hml : c.maxLocals = 5 := hml0
  have hown : s.vm.findClass "java/lang/Character" = some m.cls := findClass_of_methodNamed Bd.named
  have hnm := (name_of_methodNamed Bd.named Bd.method).1
  have X0 : Stand p l e ({ frames := 2, cells := 0, slots := 0, locals := 31 } : Room) s m #[(.ref a1), (.int (0 : Int32)), (.int p3), (.int p4), (.int p5)] below meth c s₁ [] 0 0 := Stand.of_body Bd
  have e0 : s₁.heap = h0 := by rw [← hh, Bd.state]; rfl
  have N0 := Fr.nil n0
  have KP0 : Keep h0 h0 [] := Keep.refl h0 _
  obtain ⟨G, hG⟩ : ∃ G : State, G = s₁.setTop (entryFrame m #[(.ref a1), (.int (0 : Int32)), (.int p3), (.int p4), (.int p5)] 5) := ⟨_, rfl⟩
  have pre0 : ∀ t, Steps p.tables e below (s₁.setTop (mkF m 0 #[.val (.ref a1), .val (.int (0 : Int32)), .val (.int p3), .val (.int p4), .val (.int p5)] [])) t → Steps p.tables e below G t := fun t k => hG ▸ castTop (ef_rm33 m a1 p3 p4 p5) k
  obtain ⟨q1, q2, q3, q4⟩ := own_c33 hn4 hx4 hz
  have K1 : ∀ t, Steps p.tables e below (s₁.setTop (mkF m 2 #[.val (.ref a1), .val (.int (0 : Int32)), .val (.int p3), .val (.int p4), .val (.int p5)] [(.ref a1), (.int p3)])) t → Steps p.tables e below G t := by
    intro t k
    refine pre0 t ?_
    refine XS.iloadN X0.here hx rfl (hb hby d33_0) rfl ?_
    refine XS.aloadN X0.here hx rfl (hb hby d33_1) rfl rfl ?_
    exact k
  obtain ⟨cl2, Ar2, -, S2, M2, -, -⟩ := id V1
  have K3 : ∀ t, Steps p.tables e below (s₁.setTop (mkF m 3 #[.val (.ref a1), .val (.int (0 : Int32)), .val (.int p3), .val (.int p4), .val (.int p5)] [(.int z), (.int p3)])) t → Steps p.tables e below G t := by
    intro t k
    refine K1 t ?_
    refine X0.arraylength hx (by rw [e0]; exact Ar2.1) (State.isArrayOf_alike hZ.alike Ar2.2.1) (g := (mkF m 2 #[.val (.ref a1), .val (.int (0 : Int32)), .val (.int p3), .val (.int p4), .val (.int p5)] [(.ref a1), (.int p3)])) rfl rfl (hb hby d33_2) _ ?_
    rw [len_of S2 M2]
    exact k
  have K4 : ∀ t, Steps p.tables e below (s₁.setTop (mkF m 42 #[.val (.ref a1), .val (.int (0 : Int32)), .val (.int p3), .val (.int p4), .val (.int p5)] [(.int p5), (.int p4), (.int p3), (.int (0 : Int32)), (.ref a1)])) t → Steps p.tables e below G t := by
    intro t k
    refine K3 t ?_
    refine XS.iloadN X0.here hx rfl (hb hby d33_3) rfl ?_
    refine XS.isub X0.here hx rfl (hb hby d33_4) rfl ?_
    refine XS.icmpNo X0.here hx rfl (hb hby d33_5) rfl (flt q1).2.2.1 ?_
    refine XS.iloadN X0.here hx rfl (hb hby d33_8) rfl ?_
    refine XS.ifNo X0.here hx rfl (hb hby d33_9) rfl ((if0 _ _).trans (flt (by decide)).1) ?_
    refine XS.iloadN X0.here hx rfl (hb hby d33_12) rfl ?_
    refine XS.ifNo X0.here hx rfl (hb hby d33_13) rfl ((if0 _ _).trans (flt q2).1) ?_
    refine XS.iloadN X0.here hx rfl (hb hby d33_16) rfl ?_
    refine XS.iloadN X0.here hx rfl (hb hby d33_17) rfl ?_
    refine XS.icmpNo X0.here hx rfl (hb hby d33_18) rfl (flt q3).1 ?_
    refine XS.iloadN X0.here hx rfl (hb hby d33_21) rfl ?_
    refine XS.iloadN X0.here hx rfl (hb hby d33_22) rfl ?_
    refine XS.iloadN X0.here hx rfl (hb hby d33_23) rfl ?_
    refine XS.iadd X0.here hx rfl (hb hby d33_24) rfl ?_
    refine XS.icmpYes X0.here hx rfl (pc0 := 25) (pc' := 36) rfl (hb hby d33_25) rfl (flt q4).2.2.2 (by decide) (by decide) ?_
    refine XS.aloadN X0.here hx rfl (hb hby d33_36) rfl rfl ?_
    refine XS.iloadN X0.here hx rfl (hb hby d33_37) rfl ?_
    refine XS.iloadN X0.here hx rfl (hb hby d33_38) rfl ?_
    refine XS.iloadN X0.here hx rfl (hb hby d33_39) rfl ?_
    refine XS.iload X0.here hx rfl (hb hby d33_40) rfl ?_
    exact k
  obtain ⟨_, _, ⟨T5, L5, kk5, nn5⟩, -, X5, ⟨Lc5, hQ5, lq5, yq5, zq5⟩, st5⟩ := Jvm.LawKit.callS X0 hx (y := (⟨"java/lang/Character", "offsetByCodePointsImpl", "([CIIII)I"⟩ : MethodName)) hown (mvT hZ (hw _ (List.mem_of_getElem? (i := 153) rfl))) (mvT hZ (hw _ (List.mem_of_getElem? (i := 154) rfl))) (mvT hZ (hw _ (List.mem_of_getElem? (i := 151) rfl))) (mvT hZ (hw _ (List.mem_of_getElem? (i := 155) rfl))) (by decide) (backOf (W := 0) (rm34 l Z a0 hw [] a1 p3 p4 p5 k1 z vs f r h0 n0 Z0 V1 hf hz hn4 hx4 hrr) hZ (hw _ (List.mem_of_getElem? (i := 155) rfl)) (hw _ (List.mem_of_getElem? (i := 151) rfl)) (by decide) (by decide)) (g := (mkF m 42 #[.val (.ref a1), .val (.int (0 : Int32)), .val (.int p3), .val (.int p4), .val (.int p5)] [(.int p5), (.int p4), (.int p3), (.int (0 : Int32)), (.ref a1)])) rfl (by rw [hml]; rfl) (argsL := [(.ref a1), (.int (0 : Int32)), (.int p3), (.int p4), (.int p5)]) (rest := []) (lenOf pd_23 rfl) rfl (by show 2 * 0 + _ ≤ _; exact Nat.le_of_eq rfl) (hb hby d33_42) (fun _ _ => ⟨rfl, e0, (by decide : 0 + 0 ≤ _), (by decide : 0 + 0 ≤ _)⟩)
  dsimp only [Pt.U, Pt.locs, Pt.cells, Pt.slots] at X5 lq5 yq5 zq5 st5 hQ5
  subst lq5 yq5 zq5
  obtain ⟨rfl, Nq5, e5⟩ := hQ5
  have N6 := Fr.app N0 Nq5
  have K7 : ∀ t, Steps p.tables e below (T5.setTop (mkF m 45 #[.val (.ref a1), .val (.int (0 : Int32)), .val (.int p3), .val (.int p4), .val (.int p5)] [(.int r)])) t → Steps p.tables e below G t := fun t k => K4 t (st5 _ k)
  obtain ⟨fs, hr, hrun, hended, hW, hsame⟩ := X5.leave (v := some (.int r)) (fun h => by rw [Bd.returns] at h; cases h)
  have KF := K7
  rw [hG] at KF
  refine ⟨_, _, KF _ ?_, hrun, hended, _, _, rfl, ?_, ⟨_, rfl⟩, hW, hsame.mono (by decide) (by decide)⟩
  · show Steps p.tables e below (T5.setTop (mkF m 45 #[.val (.ref a1), .val (.int (0 : Int32)), .val (.int p3), .val (.int p4), .val (.int p5)] [(.int r)])) _
    exact own_retI X5 hx Bd.returns (hb hby d33_45) hr
  · show Q33 a1 p3 p4 p5 k1 z vs f r h0 n0 _ T5.heap _
    rw [e5]
    exact ⟨rfl, N6, rfl⟩
def Q32 (b1 : Addr) (p4 p5 : Int32) (a1 : Addr) (p3 : Int32) (k1 : ClassId) (z : Int32) (vs : List Value) (f : Nat → Int32) (r : Int32) (h0 : Heap) (n0 : Nat) (v : Option Value) (h : Heap) (L : List Loc) : Prop := v = some (.int r) ∧ Fr n0 L ∧ h = h0
theorem d32_0 : decode prog_20_method_13_code 0 = .ok (.aload_n 0, 1) := by decide +kernel
theorem d32_1 : decode prog_20_method_13_code 1 = .ok (.getfield 7, 3) := by decide +kernel
theorem d32_4 : decode prog_20_method_13_code 4 = .ok (.iconst 0, 1) := by decide +kernel
theorem d32_5 : decode prog_20_method_13_code 5 = .ok (.aload_n 0, 1) := by decide +kernel
theorem d32_6 : decode prog_20_method_13_code 6 = .ok (.getfield 13, 3) := by decide +kernel
theorem d32_9 : decode prog_20_method_13_code 9 = .ok (.iload_n 1, 1) := by decide +kernel
theorem d32_10 : decode prog_20_method_13_code 10 = .ok (.iload_n 2, 1) := by decide +kernel
theorem d32_11 : decode prog_20_method_13_code 11 = .ok (.invokestatic 54, 3) := by decide +kernel
theorem d32_14 : decode prog_20_method_13_code 14 = .ok (.ireturn, 1) := by decide +kernel
theorem ef_rm32 (m : MethodId) (x0 : Addr) (x1 : Int32) (x2 : Int32) : entryFrame m #[(.ref x0), (.int x1), (.int x2)] 3 = mkF m 0 #[.val (.ref x0), .val (.int x1), .val (.int x2)] [] := by first | (simp [entryFrame, mkF, argsToLocals, Value.category]; done) | rfl
set_option maxRecDepth 65536 in
set_option maxHeartbeats 40000000 in
theorem rm32 (l : Launch) (Z : State) (a0 : Array Value) (hw : ∀ d ∈ tables_1, d.before a0 Z = true) (ws : List Jvm.Cond) (b1 : Addr) (p4 p5 : Int32) (a1 : Addr) (p3 : Int32) (k1 : ClassId) (z : Int32) (vs : List Value) (f : Nat → Int32) (r : Int32) (h0 : Heap) (n0 : Nat) (Z0 : n0 ≤ h0.size) (F1 : Fld Z h0 b1 "org/arborlog/pattern/LineText" "chars" "[C" (.ref a1)) (F2 : Fld Z h0 b1 "org/arborlog/pattern/LineText" "length" "I" (.int p3)) (V1 : Arv Z h0 a1 k1 .char z vs (Value.int (0 : Int32))) (hf : ∀ j : Nat, j < 4 → vs.getD j (Value.int (0 : Int32)) = .int (f j)) (hz : ¬ z < 4) (hn4 : 0 ≤ p3.toInt ∧ p3.toInt ≤ 4) (hx4 : 0 ≤ p4.toInt ∧ p4.toInt ≤ p3.toInt) (hrr : (∃ kk : Nat, p5.toInt = kk ∧ r = own_it (own_F f p3) kk p4 ∧ ¬ r < 0) ∨ (∃ kk : Nat, 0 < kk ∧ p5.toInt = -(kk : Int) ∧ r = own_it (own_B f) kk p4 ∧ ¬ r < 0)) :
    MetFree l (⟨"org/arborlog/pattern/LineText", "offsetByCodePoints", "(II)I"⟩ : MethodName) (head1 (Jvm.Cond.code (⟨"org/arborlog/pattern/LineText", "offsetByCodePoints", "(II)I"⟩ : MethodName) prog_20_method_13_code 3 (some .int) :: ws) ({ frames := 3, cells := 0, slots := 0, locals := 47 } : Room)) (fun a U => a = #[(.ref b1), (.int p4), (.int p5)] ∧ Z.Warmed39 U.vm ∧ U.heap = h0) (fun _ _ _ _ _ => True) (fun _ U o U' => ∃ v L, o = .returned v ∧ Q32 b1 p4 p5 a1 p3 k1 z vs f r h0 n0 v U'.heap L ∧ FrameEnd U o U' L ({ frames := 3, cells := 0, slots := 0, locals := 47 } : Room).cells ({ frames := 3, cells := 0, slots := 0, locals := 47 } : Room).slots) := by
  refine MetFree.of_bodySF (plainFor_of_name pn_org_arborlog_pattern_LineText) hisR ?_
  intro p e s m args below meth c s₁ Bd hml0 hP hK
  obtain ⟨rfl, hZ, hh⟩ := hP
  have hx := Bd.exec
  have hby := Bd.bytes
  have hml : c.maxLocals = 3 := hml0
  have hown : s.vm.findClass "org/arborlog/pattern/LineText" = some m.cls := findClass_of_methodNamed Bd.named
  have hnm := (name_of_methodNamed Bd.named Bd.method).1
  have X0 : Stand p l e ({ frames := 3, cells := 0, slots := 0, locals := 47 } : Room) s m #[(.ref b1), (.int p4), (.int p5)] below meth c s₁ [] 0 0 := Stand.of_body Bd
  have e0 : s₁.heap = h0 := by rw [← hh, Bd.state]; rfl
  have N0 := Fr.nil n0
  have KP0 : Keep h0 h0 [] := Keep.refl h0 _
  obtain ⟨G, hG⟩ : ∃ G : State, G = s₁.setTop (entryFrame m #[(.ref b1), (.int p4), (.int p5)] 3) := ⟨_, rfl⟩
  have pre0 : ∀ t, Steps p.tables e below (s₁.setTop (mkF m 0 #[.val (.ref b1), .val (.int p4), .val (.int p5)] [])) t → Steps p.tables e below G t := fun t k => hG ▸ castTop (ef_rm32 m b1 p4 p5) k
  have K1 : ∀ t, Steps p.tables e below (s₁.setTop (mkF m 1 #[.val (.ref b1), .val (.int p4), .val (.int p5)] [(.ref b1)])) t → Steps p.tables e below G t := by
    intro t k
    refine pre0 t ?_
    refine XS.aloadN X0.here hx rfl (hb hby d32_0) rfl rfl ?_
    exact k
  obtain ⟨T2, X2, e2, st2⟩ := getF X0 hx hZ hown (host := "") (Or.inl (hw _ (List.mem_of_getElem? (i := 20) rfl))) Via.refl e0 F1 (g := (mkF m 1 #[.val (.ref b1), .val (.int p4), .val (.int p5)] [(.ref b1)])) rfl rfl (hb hby d32_1)
  have K3 : ∀ t, Steps p.tables e below (T2.setTop (mkF m 4 #[.val (.ref b1), .val (.int p4), .val (.int p5)] [(.ref a1)])) t → Steps p.tables e below G t := fun t k => K1 t (st2 t k)
  have K4 : ∀ t, Steps p.tables e below (T2.setTop (mkF m 6 #[.val (.ref b1), .val (.int p4), .val (.int p5)] [(.ref b1), (.int (0 : Int32)), (.ref a1)])) t → Steps p.tables e below G t := by
    intro t k
    refine K3 t ?_
    refine XS.iconst X2.here hx rfl (hb hby d32_4) ?_
    refine XS.aloadN X2.here hx rfl (hb hby d32_5) rfl rfl ?_
    exact k
  obtain ⟨T5, X5, e5, st5⟩ := getF X2 hx hZ hown (host := "") (Or.inl (hw _ (List.mem_of_getElem? (i := 83) rfl))) Via.refl e2 F2 (g := (mkF m 6 #[.val (.ref b1), .val (.int p4), .val (.int p5)] [(.ref b1), (.int (0 : Int32)), (.ref a1)])) rfl rfl (hb hby d32_6)
  have K6 : ∀ t, Steps p.tables e below (T5.setTop (mkF m 9 #[.val (.ref b1), .val (.int p4), .val (.int p5)] [(.int p3), (.int (0 : Int32)), (.ref a1)])) t → Steps p.tables e below G t := fun t k => K4 t (st5 t k)
  have K7 : ∀ t, Steps p.tables e below (T5.setTop (mkF m 11 #[.val (.ref b1), .val (.int p4), .val (.int p5)] [(.int p5), (.int p4), (.int p3), (.int (0 : Int32)), (.ref a1)])) t → Steps p.tables e below G t := by
    intro t k
    refine K6 t ?_
    refine XS.iloadN X5.here hx rfl (hb hby d32_9) rfl ?_
    refine XS.iloadN X5.here hx rfl (hb hby d32_10) rfl ?_
    exact k
  obtain ⟨_, _, ⟨T8, L8, kk8, nn8⟩, -, X8, ⟨Lc8, hQ8, lq8, yq8, zq8⟩, st8⟩ := Jvm.LawKit.callS X5 hx (y := (⟨"java/lang/Character", "offsetByCodePoints", "([CIIII)I"⟩ : MethodName)) hown (mvT hZ (hw _ (List.mem_of_getElem? (i := 149) rfl))) (mvT hZ (hw _ (List.mem_of_getElem? (i := 150) rfl))) (mvT hZ (hw _ (List.mem_of_getElem? (i := 151) rfl))) (mvT hZ (hw _ (List.mem_of_getElem? (i := 152) rfl))) (by decide) (backOf (W := 0) (rm33 l Z a0 hw [] a1 p3 p4 p5 k1 z vs f r h0 n0 Z0 V1 hf hz hn4 hx4 hrr) hZ (hw _ (List.mem_of_getElem? (i := 152) rfl)) (hw _ (List.mem_of_getElem? (i := 151) rfl)) (by decide) (by decide)) (g := (mkF m 11 #[.val (.ref b1), .val (.int p4), .val (.int p5)] [(.int p5), (.int p4), (.int p3), (.int (0 : Int32)), (.ref a1)])) rfl (by rw [hml]; rfl) (argsL := [(.ref a1), (.int (0 : Int32)), (.int p3), (.int p4), (.int p5)]) (rest := []) (lenOf pd_23 rfl) rfl (by show 2 * 0 + _ ≤ _; exact Nat.le_of_eq rfl) (hb hby d32_11) (fun _ _ => ⟨rfl, e5, (by decide : 0 + 0 ≤ _), (by decide : 0 + 0 ≤ _)⟩)
  dsimp only [Pt.U, Pt.locs, Pt.cells, Pt.slots] at X8 lq8 yq8 zq8 st8 hQ8
  subst lq8 yq8 zq8
  obtain ⟨rfl, Nq8, e8⟩ := hQ8
  have N9 := Fr.app N0 Nq8
  have K10 : ∀ t, Steps p.tables e below (T8.setTop (mkF m 14 #[.val (.ref b1), .val (.int p4), .val (.int p5)] [(.int r)])) t → Steps p.tables e below G t := fun t k => K7 t (st8 _ k)
  obtain ⟨fs, hr, hrun, hended, hW, hsame⟩ := X8.leave (v := some (.int r)) (fun h => by rw [Bd.returns] at h; cases h)
  have KF := K10
  rw [hG] at KF
  refine ⟨_, _, KF _ ?_, hrun, hended, _, _, rfl, ?_, ⟨_, rfl⟩, hW, hsame.mono (by decide) (by decide)⟩
  · show Steps p.tables e below (T8.setTop (mkF m 14 #[.val (.ref b1), .val (.int p4), .val (.int p5)] [(.int r)])) _
    exact own_retI X8 hx Bd.returns (hb hby d32_14) hr
  · show Q32 b1 p4 p5 a1 p3 k1 z vs f r h0 n0 _ T8.heap _
    rw [e8]
    exact ⟨rfl, N9, rfl⟩
def Q1 (h0 : Heap) (n0 : Nat) (v : Option Value) (h : Heap) (L : List Loc) : Prop := ∃ r : Int32, v = some (.int r) ∧ Fr n0 L ∧ h = h0
theorem d1_0 : decode method_3_code 0 = .ok (.iload_n 0, 1) := by decide +kernel
theorem d1_1 : decode method_3_code 1 = .ok (.iconst 3, 1) := by decide +kernel
theorem d1_2 : decode method_3_code 2 = .ok (.iand, 1) := by decide +kernel
theorem d1_3 : decode method_3_code 3 = .ok (.istore_n 1, 1) := by decide +kernel
theorem d1_4 : decode method_3_code 4 = .ok (.iload_n 0, 1) := by decide +kernel
theorem d1_5 : decode method_3_code 5 = .ok (.iconst 2, 1) := by decide +kernel
theorem d1_6 : decode method_3_code 6 = .ok (.iushr, 1) := by decide +kernel
theorem d1_7 : decode method_3_code 7 = .ok (.sipush 1023, 3) := by decide +kernel
theorem d1_10 : decode method_3_code 10 = .ok (.iand, 1) := by decide +kernel
theorem d1_11 : decode method_3_code 11 = .ok (.istore_n 2, 1) := by decide +kernel
theorem d1_12 : decode method_3_code 12 = .ok (.iload_n 1, 1) := by decide +kernel
theorem d1_13 : decode method_3_code 13 = .ok (.ifCond .ne 6, 3) := by decide +kernel
theorem d1_16 : decode method_3_code 16 = .ok (.iload_n 2, 1) := by decide +kernel
theorem d1_17 : decode method_3_code 17 = .ok (.i2c, 1) := by decide +kernel
theorem d1_18 : decode method_3_code 18 = .ok (.ireturn, 1) := by decide +kernel
theorem d1_19 : decode method_3_code 19 = .ok (.iload_n 1, 1) := by decide +kernel
theorem d1_20 : decode method_3_code 20 = .ok (.iconst 1, 1) := by decide +kernel
theorem d1_21 : decode method_3_code 21 = .ok (.if_icmp .ne 9, 3) := by decide +kernel
theorem d1_24 : decode method_3_code 24 = .ok (.ldc 42, 2) := by decide +kernel
theorem d1_26 : decode method_3_code 26 = .ok (.iload_n 2, 1) := by decide +kernel
theorem d1_27 : decode method_3_code 27 = .ok (.ior, 1) := by decide +kernel
theorem d1_28 : decode method_3_code 28 = .ok (.i2c, 1) := by decide +kernel
theorem d1_29 : decode method_3_code 29 = .ok (.ireturn, 1) := by decide +kernel
theorem d1_30 : decode method_3_code 30 = .ok (.iload_n 1, 1) := by decide +kernel
theorem d1_31 : decode method_3_code 31 = .ok (.iconst 2, 1) := by decide +kernel
theorem d1_32 : decode method_3_code 32 = .ok (.if_icmp .ne 9, 3) := by decide +kernel
theorem d1_35 : decode method_3_code 35 = .ok (.ldc 43, 2) := by decide +kernel
theorem d1_37 : decode method_3_code 37 = .ok (.iload_n 2, 1) := by decide +kernel
theorem d1_38 : decode method_3_code 38 = .ok (.ior, 1) := by decide +kernel
theorem d1_39 : decode method_3_code 39 = .ok (.i2c, 1) := by decide +kernel
theorem d1_40 : decode method_3_code 40 = .ok (.ireturn, 1) := by decide +kernel
theorem d1_41 : decode method_3_code 41 = .ok (.iload_n 0, 1) := by decide +kernel
theorem d1_42 : decode method_3_code 42 = .ok (.iconst 2, 1) := by decide +kernel
theorem d1_43 : decode method_3_code 43 = .ok (.iushr, 1) := by decide +kernel
theorem d1_44 : decode method_3_code 44 = .ok (.ldc 44, 2) := by decide +kernel
theorem d1_46 : decode method_3_code 46 = .ok (.iand, 1) := by decide +kernel
theorem d1_47 : decode method_3_code 47 = .ok (.i2c, 1) := by decide +kernel
theorem d1_48 : decode method_3_code 48 = .ok (.ireturn, 1) := by decide +kernel
theorem ef_rm1 (m : MethodId) (x0 : Int32) : entryFrame m #[(.int x0)] 3 = mkF m 0 #[.val (.int x0), .unset, .unset] [] := by first | (simp [entryFrame, mkF, argsToLocals, Value.category]; done) | rfl
set_option maxRecDepth 65536 in
set_option maxHeartbeats 40000000 in
theorem rm1 (l : Launch) (Z : State) (a0 : Array Value) (hw : ∀ d ∈ tables_1, d.before a0 Z = true) (ws : List Jvm.Cond) (p1 : Int32) (h0 : Heap) (n0 : Nat) (Z0 : n0 ≤ h0.size) :
    MetFree l (⟨"org/arborlog/pattern/LineTextOffsetByCodePointsPinLaw", "mk", "(I)C"⟩ : MethodName) (head1 (Jvm.Cond.code (⟨"org/arborlog/pattern/LineTextOffsetByCodePointsPinLaw", "mk", "(I)C"⟩ : MethodName) method_3_code 3 (some .char) :: ws) ({ frames := 0, cells := 0, slots := 0, locals := 0 } : Room)) (fun a U => a = #[(.int p1)] ∧ Z.Warmed39 U.vm ∧ U.heap = h0) (fun _ _ _ _ _ => True) (fun _ U o U' => ∃ v L, o = .returned v ∧ Q1 h0 n0 v U'.heap L ∧ FrameEnd U o U' L ({ frames := 0, cells := 0, slots := 0, locals := 0 } : Room).cells ({ frames := 0, cells := 0, slots := 0, locals := 0 } : Room).slots) := by
  refine MetFree.of_bodySF (plainFor_of_name pn_org_arborlog_pattern_LineTextOffsetByCodePointsPinLaw) hisR ?_
  intro p e s m args below meth c s₁ Bd hml0 hP hK
  obtain ⟨rfl, hZ, hh⟩ := hP
  have hx := Bd.exec
  have hby := Bd.bytes
  have hml : c.maxLocals = 3 := hml0
  have hown : s.vm.findClass "org/arborlog/pattern/LineTextOffsetByCodePointsPinLaw" = some m.cls := findClass_of_methodNamed Bd.named
  have hnm := (name_of_methodNamed Bd.named Bd.method).1
  have X0 : Stand p l e ({ frames := 0, cells := 0, slots := 0, locals := 0 } : Room) s m #[(.int p1)] below meth c s₁ [] 0 0 := Stand.of_body Bd
  have e0 : s₁.heap = h0 := by rw [← hh, Bd.state]; rfl
  have N0 := Fr.nil n0
  have KP0 : Keep h0 h0 [] := Keep.refl h0 _
  obtain ⟨G, hG⟩ : ∃ G : State, G = s₁.setTop (entryFrame m #[(.int p1)] 3) := ⟨_, rfl⟩
  have pre0 : ∀ t, Steps p.tables e below (s₁.setTop (mkF m 0 #[.val (.int p1), .unset, .unset] [])) t → Steps p.tables e below G t := fun t k => hG ▸ castTop (ef_rm1 m p1) k
  have K1 : ∀ t, Steps p.tables e below (s₁.setTop (mkF m 13 #[.val (.int p1), .val (.int (p1 &&& (3 : Int32))), .val (.int (((p1.toUInt32 >>> ((2 : Int32) &&& 31).toUInt32).toInt32) &&& (1023 : Int32)))] [(.int (p1 &&& (3 : Int32)))])) t → Steps p.tables e below G t := by
    intro t k
    refine pre0 t ?_
    refine XS.iloadN X0.here hx rfl (hb hby d1_0) rfl ?_
    refine XS.iconst X0.here hx rfl (hb hby d1_1) ?_
    refine XS.iand X0.here hx rfl (hb hby d1_2) rfl ?_
    refine XS.istoreN X0.here hx rfl (hb hby d1_3) rfl (l' := #[.val (.int p1), .val (.int (p1 &&& (3 : Int32))), .unset]) rfl ?_
    refine XS.iloadN X0.here hx rfl (hb hby d1_4) rfl ?_
    refine XS.iconst X0.here hx rfl (hb hby d1_5) ?_
    refine XS.iushr X0.here hx rfl (hb hby d1_6) rfl ?_
    refine XS.sipush X0.here hx rfl (hb hby d1_7) ?_
    refine XS.iand X0.here hx rfl (hb hby d1_10) rfl ?_
    refine XS.istoreN X0.here hx rfl (hb hby d1_11) rfl (l' := #[.val (.int p1), .val (.int (p1 &&& (3 : Int32))), .val (.int (((p1.toUInt32 >>> ((2 : Int32) &&& 31).toUInt32).toInt32) &&& (1023 : Int32)))]) rfl ?_
    refine XS.iloadN X0.here hx rfl (hb hby d1_12) rfl ?_
    exact k
  by_cases hc2 : (p1 &&& (3 : Int32)) = (0 : Int32)
  · obtain ⟨fs, hr, hrun, hended, hW, hsame⟩ := X0.leave (v := some (.int (nar .char ((((p1.toUInt32 >>> ((2 : Int32) &&& 31).toUInt32).toInt32) &&& (1023 : Int32)).toUInt32.toUInt16.toUInt32.toInt32)))) (fun h => by rw [Bd.returns] at h; cases h)
    have KF := K1
    rw [hG] at KF
    refine ⟨_, _, KF _ ?_, hrun, hended, _, _, rfl, ?_, ⟨_, rfl⟩, hW, hsame.mono (by decide) (by decide)⟩
    · refine XS.ifNo X0.here hx rfl (hb hby d1_13) rfl ((if0 _ _).trans (teq hc2).2) ?_
      refine XS.iloadN X0.here hx rfl (hb hby d1_16) rfl ?_
      refine XS.i2c X0.here hx rfl (hb hby d1_17) rfl ?_
      show Steps p.tables e below (s₁.setTop (mkF m 18 #[.val (.int p1), .val (.int (p1 &&& (3 : Int32))), .val (.int (((p1.toUInt32 >>> ((2 : Int32) &&& 31).toUInt32).toInt32) &&& (1023 : Int32)))] [(.int ((((p1.toUInt32 >>> ((2 : Int32) &&& 31).toUInt32).toInt32) &&& (1023 : Int32)).toUInt32.toUInt16.toUInt32.toInt32))])) _
      exact retN X0 hx (t := .char) Bd.returns (by simp) (hb hby d1_18) hr
    · show Q1 h0 n0 _ s₁.heap _
      rw [e0]
      exact ⟨_, rfl, N0, rfl⟩
  · have K3 : ∀ t, Steps p.tables e below (s₁.setTop (mkF m 21 #[.val (.int p1), .val (.int (p1 &&& (3 : Int32))), .val (.int (((p1.toUInt32 >>> ((2 : Int32) &&& 31).toUInt32).toInt32) &&& (1023 : Int32)))] [(.int (1 : Int32)), (.int (p1 &&& (3 : Int32)))])) t → Steps p.tables e below G t := by
      intro t k
      refine K1 t ?_
      refine XS.ifYes X0.here hx rfl (pc0 := 13) (pc' := 19) rfl (hb hby d1_13) rfl ((if0 _ _).trans (feq hc2).2) (by decide) (by decide) ?_
      refine XS.iloadN X0.here hx rfl (hb hby d1_19) rfl ?_
      refine XS.iconst X0.here hx rfl (hb hby d1_20) ?_
      exact k
    by_cases hc4 : (p1 &&& (3 : Int32)) = (1 : Int32)
    · obtain ⟨fs, hr, hrun, hended, hW, hsame⟩ := X0.leave (v := some (.int (nar .char (((55296 : Int32) ||| (((p1.toUInt32 >>> ((2 : Int32) &&& 31).toUInt32).toInt32) &&& (1023 : Int32))).toUInt32.toUInt16.toUInt32.toInt32)))) (fun h => by rw [Bd.returns] at h; cases h)
      have KF := K3
      rw [hG] at KF
      refine ⟨_, _, KF _ ?_, hrun, hended, _, _, rfl, ?_, ⟨_, rfl⟩, hW, hsame.mono (by decide) (by decide)⟩
      · refine XS.icmpNo X0.here hx rfl (hb hby d1_21) rfl (teq hc4).2 ?_
        refine X0.ldcInt hx hown (mvT hZ (hw _ (List.mem_of_getElem? (i := 7) rfl))) (g := (mkF m 24 #[.val (.int p1), .val (.int (p1 &&& (3 : Int32))), .val (.int (((p1.toUInt32 >>> ((2 : Int32) &&& 31).toUInt32).toInt32) &&& (1023 : Int32)))] [])) rfl (hb hby d1_24) _ ?_
        refine XS.iloadN X0.here hx rfl (hb hby d1_26) rfl ?_
        refine XS.ior X0.here hx rfl (hb hby d1_27) rfl ?_
        refine XS.i2c X0.here hx rfl (hb hby d1_28) rfl ?_
        show Steps p.tables e below (s₁.setTop (mkF m 29 #[.val (.int p1), .val (.int (p1 &&& (3 : Int32))), .val (.int (((p1.toUInt32 >>> ((2 : Int32) &&& 31).toUInt32).toInt32) &&& (1023 : Int32)))] [(.int (((55296 : Int32) ||| (((p1.toUInt32 >>> ((2 : Int32) &&& 31).toUInt32).toInt32) &&& (1023 : Int32))).toUInt32.toUInt16.toUInt32.toInt32))])) _
        exact retN X0 hx (t := .char) Bd.returns (by simp) (hb hby d1_29) hr
      · show Q1 h0 n0 _ s₁.heap _
        rw [e0]
        exact ⟨_, rfl, N0, rfl⟩
    · have K5 : ∀ t, Steps p.tables e below (s₁.setTop (mkF m 32 #[.val (.int p1), .val (.int (p1 &&& (3 : Int32))), .val (.int (((p1.toUInt32 >>> ((2 : Int32) &&& 31).toUInt32).toInt32) &&& (1023 : Int32)))] [(.int (2 : Int32)), (.int (p1 &&& (3 : Int32)))])) t → Steps p.tables e below G t := by
        intro t k
        refine K3 t ?_
        refine XS.icmpYes X0.here hx rfl (pc0 := 21) (pc' := 30) rfl (hb hby d1_21) rfl (feq hc4).2 (by decide) (by decide) ?_
        refine XS.iloadN X0.here hx rfl (hb hby d1_30) rfl ?_
        refine XS.iconst X0.here hx rfl (hb hby d1_31) ?_
        exact k
      by_cases hc6 : (p1 &&& (3 : Int32)) = (2 : Int32)
      · obtain ⟨fs, hr, hrun, hended, hW, hsame⟩ := X0.leave (v := some (.int (nar .char (((56320 : Int32) ||| (((p1.toUInt32 >>> ((2 : Int32) &&& 31).toUInt32).toInt32) &&& (1023 : Int32))).toUInt32.toUInt16.toUInt32.toInt32)))) (fun h => by rw [Bd.returns] at h; cases h)
        have KF := K5
        rw [hG] at KF
        refine ⟨_, _, KF _ ?_, hrun, hended, _, _, rfl, ?_, ⟨_, rfl⟩, hW, hsame.mono (by decide) (by decide)⟩
        · refine XS.icmpNo X0.here hx rfl (hb hby d1_32) rfl (teq hc6).2 ?_
          refine X0.ldcInt hx hown (mvT hZ (hw _ (List.mem_of_getElem? (i := 6) rfl))) (g := (mkF m 35 #[.val (.int p1), .val (.int (p1 &&& (3 : Int32))), .val (.int (((p1.toUInt32 >>> ((2 : Int32) &&& 31).toUInt32).toInt32) &&& (1023 : Int32)))] [])) rfl (hb hby d1_35) _ ?_
          refine XS.iloadN X0.here hx rfl (hb hby d1_37) rfl ?_
          refine XS.ior X0.here hx rfl (hb hby d1_38) rfl ?_
          refine XS.i2c X0.here hx rfl (hb hby d1_39) rfl ?_
          show Steps p.tables e below (s₁.setTop (mkF m 40 #[.val (.int p1), .val (.int (p1 &&& (3 : Int32))), .val (.int (((p1.toUInt32 >>> ((2 : Int32) &&& 31).toUInt32).toInt32) &&& (1023 : Int32)))] [(.int (((56320 : Int32) ||| (((p1.toUInt32 >>> ((2 : Int32) &&& 31).toUInt32).toInt32) &&& (1023 : Int32))).toUInt32.toUInt16.toUInt32.toInt32))])) _
          exact retN X0 hx (t := .char) Bd.returns (by simp) (hb hby d1_40) hr
        · show Q1 h0 n0 _ s₁.heap _
          rw [e0]
          exact ⟨_, rfl, N0, rfl⟩
      · obtain ⟨fs, hr, hrun, hended, hW, hsame⟩ := X0.leave (v := some (.int (nar .char ((((p1.toUInt32 >>> ((2 : Int32) &&& 31).toUInt32).toInt32) &&& (65535 : Int32)).toUInt32.toUInt16.toUInt32.toInt32)))) (fun h => by rw [Bd.returns] at h; cases h)
        have KF := K5
        rw [hG] at KF
        refine ⟨_, _, KF _ ?_, hrun, hended, _, _, rfl, ?_, ⟨_, rfl⟩, hW, hsame.mono (by decide) (by decide)⟩
        · refine XS.icmpYes X0.here hx rfl (pc0 := 32) (pc' := 41) rfl (hb hby d1_32) rfl (feq hc6).2 (by decide) (by decide) ?_
          refine XS.iloadN X0.here hx rfl (hb hby d1_41) rfl ?_
          refine XS.iconst X0.here hx rfl (hb hby d1_42) ?_
          refine XS.iushr X0.here hx rfl (hb hby d1_43) rfl ?_
          refine X0.ldcInt hx hown (mvT hZ (hw _ (List.mem_of_getElem? (i := 5) rfl))) (g := (mkF m 44 #[.val (.int p1), .val (.int (p1 &&& (3 : Int32))), .val (.int (((p1.toUInt32 >>> ((2 : Int32) &&& 31).toUInt32).toInt32) &&& (1023 : Int32)))] [(.int ((p1.toUInt32 >>> ((2 : Int32) &&& 31).toUInt32).toInt32))])) rfl (hb hby d1_44) _ ?_
          refine XS.iand X0.here hx rfl (hb hby d1_46) rfl ?_
          refine XS.i2c X0.here hx rfl (hb hby d1_47) rfl ?_
          show Steps p.tables e below (s₁.setTop (mkF m 48 #[.val (.int p1), .val (.int (p1 &&& (3 : Int32))), .val (.int (((p1.toUInt32 >>> ((2 : Int32) &&& 31).toUInt32).toInt32) &&& (1023 : Int32)))] [(.int ((((p1.toUInt32 >>> ((2 : Int32) &&& 31).toUInt32).toInt32) &&& (65535 : Int32)).toUInt32.toUInt16.toUInt32.toInt32))])) _
          exact retN X0 hx (t := .char) Bd.returns (by simp) (hb hby d1_48) hr
        · show Q1 h0 n0 _ s₁.heap _
          rw [e0]
          exact ⟨_, rfl, N0, rfl⟩
theorem own_r5 (x : Int32) : 0 ≤ ((x &&& (7 : Int32)) % (5 : Int32)).toInt ∧ ((x &&& (7 : Int32)) % (5 : Int32)).toInt ≤ 4 := by
  have m := c_mask x 7 3 (by decide) (by decide)
  have r := (c_irem (x &&& 7) 5 5 rfl).1 (by rw [m]; omega)
  omega
theorem own_n1 {n : Int32} (h : 0 ≤ n.toInt ∧ n.toInt ≤ 4) : (n + (1 : Int32)).toInt = n.toInt + 1 ∧ n + (1 : Int32) ≠ 0 := by
  have z1 : (1 : Int32).toInt = 1 := rfl
  have a := c_iadd n 1; have r := rng32 (n + 1)
  have e : (n + (1 : Int32)).toInt = n.toInt + 1 := by omega
  exact ⟨e, fun q => by rw [q] at e; have z0 : (0 : Int32).toInt = 0 := rfl; omega⟩
theorem own_rn {x n : Int32} (hx : 0 ≤ x.toInt) (h : 0 ≤ n.toInt ∧ n.toInt ≤ 4) : 0 ≤ (x % (n + (1 : Int32))).toInt ∧ (x % (n + (1 : Int32))).toInt ≤ n.toInt := by
  have e := (own_n1 h).1
  have r := (c_irem x (n + 1) (n.toInt + 1) e).1 hx
  have q1 := Int.emod_nonneg x.toInt (show n.toInt + 1 ≠ 0 by omega); have q2 := Int.emod_lt_of_pos x.toInt (show 0 < n.toInt + 1 by omega)
  omega
theorem own_m7 (x : Int32) : 0 ≤ (x &&& (7 : Int32)).toInt := by
  have m := c_mask x 7 3 (by decide) (by decide)
  rw [m]; omega
theorem own_u1 (x : Int32) : 0 ≤ ((x.toUInt32 >>> ((1 : Int32) &&& 31).toUInt32).toInt32).toInt := by
  have m := c_iushr x 1 1 (by decide) (by decide)
  rw [m]; omega
theorem own_cap (x : Int32) : ¬ (x &&& (7 : Int32)) < 0 ∧ (x &&& (7 : Int32)).toNatClampNeg ≤ 8 ∧ (x &&& (7 : Int32)).toInt ≤ 10 := by
  have m := c_mask x 7 3 (by decide) (by decide)
  have z0 : (0 : Int32).toInt = 0 := rfl
  simp only [Int32.lt_iff_toInt_lt, Int32.toNatClampNeg]; omega
theorem own_av {y1 y2 y3 y4 av : Int32} (h : av = (if y1 < (0 : Int32) then (0 : Int32) else (if y2 < (0 : Int32) then (1 : Int32) else (if y3 < (0 : Int32) then (2 : Int32) else (if y4 < (0 : Int32) then (3 : Int32) else (4 : Int32)))))) : (y1 < 0 → av.toInt ≤ 0) ∧ (y2 < 0 → av.toInt ≤ 1) ∧ (y3 < 0 → av.toInt ≤ 2) ∧ (y4 < 0 → av.toInt ≤ 3) ∧ 0 ≤ av.toInt ∧ av.toInt ≤ 4 := by
  subst h
  by_cases a : y1 < 0
  · rw [if_pos a]; exact ⟨fun _ => by decide, fun _ => by decide, fun _ => by decide, fun _ => by decide, by decide, by decide⟩
  · rw [if_neg a]
    by_cases b : y2 < 0
    · rw [if_pos b]; exact ⟨fun q => absurd q a, fun _ => by decide, fun _ => by decide, fun _ => by decide, by decide, by decide⟩
    · rw [if_neg b]
      by_cases c : y3 < 0
      · rw [if_pos c]; exact ⟨fun q => absurd q a, fun q => absurd q b, fun _ => by decide, fun _ => by decide, by decide, by decide⟩
      · rw [if_neg c]
        by_cases d : y4 < 0
        · rw [if_pos d]; exact ⟨fun q => absurd q a, fun q => absurd q b, fun q => absurd q c, fun _ => by decide, by decide, by decide⟩
        · rw [if_neg d]; exact ⟨fun q => absurd q a, fun q => absurd q b, fun q => absurd q c, fun q => absurd q d, by decide, by decide⟩
theorem own_sel (g : Int32 → Int32) {x y1 y2 y3 y4 av t ex : Int32} (h1 : y1 = g x) (h2 : y2 = g y1) (h3 : y3 = g y2) (h4 : y4 = g y3) (hx : ¬ x < 0) (hav : (y1 < 0 → av.toInt ≤ 0) ∧ (y2 < 0 → av.toInt ≤ 1) ∧ (y3 < 0 → av.toInt ≤ 2) ∧ (y4 < 0 → av.toInt ≤ 3) ∧ 0 ≤ av.toInt ∧ av.toInt ≤ 4) (ht : 0 ≤ t.toInt ∧ t.toInt ≤ av.toInt) (hex : ex = (if t = (0 : Int32) then x else (if t = (1 : Int32) then y1 else (if t = (2 : Int32) then y2 else (if t = (3 : Int32) then y3 else y4))))) : ∃ kk : Nat, t.toInt = kk ∧ ex = own_it g kk x ∧ ¬ ex < 0 := by
  obtain ⟨a1, a2, a3, a4, a5, a6⟩ := hav
  have e : ∀ (k n : Int32), k.toInt = n.toInt → k = n := fun k n h => Int32.toInt_inj.mp h
  rcases (show t.toInt = 0 ∨ t.toInt = 1 ∨ t.toInt = 2 ∨ t.toInt = 3 ∨ t.toInt = 4 by omega) with q | q | q | q | q
  · obtain rfl := e t 0 q; rw [if_pos rfl] at hex; exact ⟨0, q, hex, hex ▸ hx⟩
  · obtain rfl := e t 1 q; rw [if_neg (by decide), if_pos rfl] at hex; exact ⟨1, q, by rw [hex, h1]; rfl, fun z => by rw [hex] at z; have := a1 z; omega⟩
  · obtain rfl := e t 2 q; rw [if_neg (by decide), if_neg (by decide), if_pos rfl] at hex; exact ⟨2, q, by rw [hex, h2, h1]; rfl, fun z => by rw [hex] at z; have := a2 z; omega⟩
  · obtain rfl := e t 3 q; rw [if_neg (by decide), if_neg (by decide), if_neg (by decide), if_pos rfl] at hex; exact ⟨3, q, by rw [hex, h3, h2, h1]; rfl, fun z => by rw [hex] at z; have := a3 z; omega⟩
  · obtain rfl := e t 4 q; rw [if_neg (by decide), if_neg (by decide), if_neg (by decide), if_neg (by decide)] at hex; exact ⟨4, q, by rw [hex, h4, h3, h2, h1]; rfl, fun z => by rw [hex] at z; have := a4 z; omega⟩
theorem own_selB (g F : Int32 → Int32) {x t ex : Int32} (h : ∃ kk : Nat, t.toInt = kk ∧ ex = own_it g kk x ∧ ¬ ex < 0) (h4 : t.toInt ≤ 4) : (∃ kk : Nat, (-t).toInt = kk ∧ ex = own_it F kk x ∧ ¬ ex < 0) ∨ (∃ kk : Nat, 0 < kk ∧ (-t).toInt = -(kk : Int) ∧ ex = own_it g kk x ∧ ¬ ex < 0) := by
  obtain ⟨kk, a, b, c⟩ := h
  have n := c_ineg t; have r := rng32 (-t)
  match kk, a, b with
  | 0, a, b => exact Or.inl ⟨0, by omega, b, c⟩
  | k + 1, a, b => exact Or.inr ⟨k + 1, by omega, by omega, b, c⟩
theorem own_bl {f : Nat → Int32} {x : Int32} (hx : x.toInt ≤ 4) : (own_B f x).toInt ≤ 4 := by
  by_cases h : (0 : Int32) < x
  · exact own_B4 h hx
  · rw [show own_B f x = -1 from if_neg h]; decide
def Q0 (n0 : Nat) (v : Option Value) (h : Heap) (L : List Loc) : Prop := v = some (.int 1) ∧ Fr n0 L
theorem pd_24 : parseMethodDescriptor "(I)C" = some ⟨[.int], some .char⟩ := by decide +kernel
theorem pd_25 : parseMethodDescriptor "([CII)I" = some ⟨[(.array .char), .int, .int], some .int⟩ := by decide +kernel
theorem pd_26 : parseMethodDescriptor "([C)V" = some ⟨[(.array .char)], none⟩ := by decide +kernel
theorem pd_27 : parseMethodDescriptor "(Ljava/lang/String;)Lorg/arborlog/pattern/LineText;" = some ⟨[(.object "java/lang/String")], some (.object "org/arborlog/pattern/LineText")⟩ := by decide +kernel
theorem pd_28 : parseMethodDescriptor "([CI)I" = some ⟨[(.array .char), .int], some .int⟩ := by decide +kernel
theorem ef_rm0 (m : MethodId) (x0 : Int32) (x1 : Int32) (x2 : Int32) (x3 : Int32) (x4 : Int32) (x5 : Int32) : entryFrame m #[(.int x0), (.int x1), (.int x2), (.int x3), (.int x4), (.int x5)] maxLocals = mkF m 0 #[.val (.int x0), .val (.int x1), .val (.int x2), .val (.int x3), .val (.int x4), .val (.int x5), .unset, .unset, .unset, .unset, .unset, .unset, .unset, .unset, .unset, .unset, .unset, .unset, .unset, .unset, .unset] [] := by first | (simp [entryFrame, mkF, argsToLocals, Value.category, maxLocals]; done) | rfl
set_option maxRecDepth 65536 in
set_option maxHeartbeats 40000000 in
theorem rm0 (l : Launch) (Z : State) (a0 : Array Value) (hw : ∀ d ∈ tables_1, d.before a0 Z = true) (ws : List Jvm.Cond) (p1 p2 p3 p4 p5 p6 : Int32) (cs : Int32) (fv : Value) (h0 : Heap) (n0 : Nat) (Z0 : n0 ≤ h0.size) (SC : Sta Z Z.heap "java/lang/String" "COMPACT_STRINGS" "Z" (.int cs)) (hcs : ¬ cs = 0) (SA : Sta Z Z.heap "java/lang/StringUTF16" "$assertionsDisabled" "Z" (.int (1 : Int32))) (SH : Sta Z Z.heap "java/lang/StringUTF16" "HI_BYTE_SHIFT" "I" (.int (0 : Int32))) (SL : Sta Z Z.heap "java/lang/StringUTF16" "LO_BYTE_SHIFT" "I" (.int (8 : Int32))) (SF : Sta Z Z.heap "jdk/internal/util/Preconditions" "SIOOBE_FORMATTER" "Ljava/util/function/BiFunction;" fv) (hfv : fv = .null ∨ ∃ a, fv = .ref a) (O0 : Old Z n0 h0) :
    MetFree l x (head1 (Jvm.Cond.code x code maxLocals ret :: ws) room_1) (fun a U => a = #[(.int p1), (.int p2), (.int p3), (.int p4), (.int p5), (.int p6)] ∧ Z.Warmed39 U.vm ∧ U.heap = h0) (fun _ _ _ _ _ => True) (fun _ U o U' => ∃ v L, o = .returned v ∧ Q0 n0 v U'.heap L ∧ FrameEnd U o U' L room_1.cells room_1.slots) := by
  refine MetFree.of_bodySF (plainFor_of_name pn_org_arborlog_pattern_LineTextOffsetByCodePointsPinLaw) hisR ?_
  intro p e s m args below meth c s₁ Bd hml0 hP hK
  obtain ⟨rfl, hZ, hh⟩ := hP
  have hx := Bd.exec
  have hby := Bd.bytes
  have hml : c.maxLocals = 21 := hml0
  have hown : s.vm.findClass "org/arborlog/pattern/LineTextOffsetByCodePointsPinLaw" = some m.cls := findClass_of_methodNamed Bd.named
  have hnm := (name_of_methodNamed Bd.named Bd.method).1
  have X0 : Stand p l e room_1 s m #[(.int p1), (.int p2), (.int p3), (.int p4), (.int p5), (.int p6)] below meth c s₁ [] 0 0 := Stand.of_body Bd
  have e0 : s₁.heap = h0 := by rw [← hh, Bd.state]; rfl
  have N0 := Fr.nil n0
  have KP0 : Keep h0 h0 [] := Keep.refl h0 _
  obtain ⟨G, hG⟩ : ∃ G : State, G = s₁.setTop (entryFrame m #[(.int p1), (.int p2), (.int p3), (.int p4), (.int p5), (.int p6)] maxLocals) := ⟨_, rfl⟩
  have pre0 : ∀ t, Steps p.tables e below (s₁.setTop (mkF m 0 #[.val (.int p1), .val (.int p2), .val (.int p3), .val (.int p4), .val (.int p5), .val (.int p6), .unset, .unset, .unset, .unset, .unset, .unset, .unset, .unset, .unset, .unset, .unset, .unset, .unset, .unset, .unset] [])) t → Steps p.tables e below G t := fun t k => hG ▸ castTop (ef_rm0 m p1 p2 p3 p4 p5 p6) k
  have K1 : ∀ t, Steps p.tables e below (s₁.setTop (mkF m 1 #[.val (.int p1), .val (.int p2), .val (.int p3), .val (.int p4), .val (.int p5), .val (.int p6), .unset, .unset, .unset, .unset, .unset, .unset, .unset, .unset, .unset, .unset, .unset, .unset, .unset, .unset, .unset] [(.int (4 : Int32))])) t → Steps p.tables e below G t := by
    intro t k
    refine pre0 t ?_
    refine XS.iconst X0.here hx rfl (hb hby at_0) ?_
    exact k
  obtain ⟨T2, h2, kn2, X2, e2, E2, A2, st2⟩ := newP X0 hx hZ (hw _ (List.mem_of_getElem? (i := 0) rfl)) e0 (g := (mkF m 1 #[.val (.int p1), .val (.int p2), .val (.int p3), .val (.int p4), .val (.int p5), .val (.int p6), .unset, .unset, .unset, .unset, .unset, .unset, .unset, .unset, .unset, .unset, .unset, .unset, .unset, .unset, .unset] [(.int (4 : Int32))])) rfl (hb hby at_1) rfl (by decide) (cap := 4) (by decide) (by decide) (by decide) (by decide)
  obtain ⟨b2, g2⟩ : ∃ z, z = h0.size := ⟨_, rfl⟩
  rw [← g2] at A2 st2
  have g_b2 : n0 ≤ b2 := Nat.le_trans Z0 (Nat.le_of_eq g2.symm)
  have sz_b2 : h0.size ≤ b2 := Nat.le_trans KP0.1 (Nat.le_of_eq g2.symm)
  have f3 := O0.ext E2
  have Z4 : n0 ≤ h2.size := Nat.le_trans Z0 E2.1
  have KP5 : Keep h0 h2 [] := KP0.ext E2
  have K6 : ∀ t, Steps p.tables e below (T2.setTop (mkF m 3 #[.val (.int p1), .val (.int p2), .val (.int p3), .val (.int p4), .val (.int p5), .val (.int p6), .unset, .unset, .unset, .unset, .unset, .unset, .unset, .unset, .unset, .unset, .unset, .unset, .unset, .unset, .unset] [(.ref b2)])) t → Steps p.tables e below G t := fun t k => K1 t (st2 t k)
  have V2 : Arv Z h2 b2 kn2 .char (4 : Int32) [(.int (0 : Int32)), (.int (0 : Int32)), (.int (0 : Int32)), (.int (0 : Int32))] (.int (0 : Int32)) := (Arv.new A2 (by decide)).pad (pad_rep [] (.int (0 : Int32)) 4)
  have K7 : ∀ t, Steps p.tables e below (T2.setTop (mkF m 9 #[.val (.int p1), .val (.int p2), .val (.int p3), .val (.int p4), .val (.int p5), .val (.int p6), .val (.ref b2), .unset, .unset, .unset, .unset, .unset, .unset, .unset, .unset, .unset, .unset, .unset, .unset, .unset, .unset] [(.int p1), (.int (0 : Int32)), (.ref b2)])) t → Steps p.tables e below G t := by
    intro t k
    refine K6 t ?_
    refine XS.astore X2.here hx rfl (hb hby at_3) rfl rfl (l' := #[.val (.int p1), .val (.int p2), .val (.int p3), .val (.int p4), .val (.int p5), .val (.int p6), .val (.ref b2), .unset, .unset, .unset, .unset, .unset, .unset, .unset, .unset, .unset, .unset, .unset, .unset, .unset, .unset]) rfl ?_
    refine XS.aload X2.here hx rfl (hb hby at_5) rfl rfl ?_
    refine XS.iconst X2.here hx rfl (hb hby at_7) ?_
    refine XS.iloadN X2.here hx rfl (hb hby at_8) rfl ?_
    exact k
  obtain ⟨_, _, ⟨T8, L8, kk8, nn8⟩, -, X8, ⟨Lc8, hQ8, lq8, yq8, zq8⟩, st8⟩ := Jvm.LawKit.callS X2 hx (y := (⟨"org/arborlog/pattern/LineTextOffsetByCodePointsPinLaw", "mk", "(I)C"⟩ : MethodName)) hown (mvT hZ (hw _ (List.mem_of_getElem? (i := 1) rfl))) (mvT hZ (hw _ (List.mem_of_getElem? (i := 2) rfl))) (mvT hZ (hw _ (List.mem_of_getElem? (i := 3) rfl))) (mvT hZ (hw _ (List.mem_of_getElem? (i := 4) rfl))) (by decide) (backOf (W := 2) (rm1 l Z a0 hw [] p1 h2 n0 Z4) hZ (hw _ (List.mem_of_getElem? (i := 4) rfl)) (hw _ (List.mem_of_getElem? (i := 3) rfl)) (by decide) (by decide)) (g := (mkF m 9 #[.val (.int p1), .val (.int p2), .val (.int p3), .val (.int p4), .val (.int p5), .val (.int p6), .val (.ref b2), .unset, .unset, .unset, .unset, .unset, .unset, .unset, .unset, .unset, .unset, .unset, .unset, .unset, .unset] [(.int p1), (.int (0 : Int32)), (.ref b2)])) rfl (by rw [hml]; rfl) (argsL := [(.int p1)]) (rest := [(.int (0 : Int32)), (.ref b2)]) (lenOf pd_24 rfl) rfl (by show 2 * 0 + _ ≤ _; exact Nat.le_of_eq rfl) (hb hby at_9) (fun _ _ => ⟨rfl, e2, (by decide : 1 + 0 ≤ _), (by decide : 4 + 0 ≤ _)⟩)
  dsimp only [Pt.U, Pt.locs, Pt.cells, Pt.slots] at X8 lq8 yq8 zq8 st8 hQ8
  subst lq8 yq8 zq8
  obtain ⟨r8, rfl, Nq8, e8⟩ := hQ8
  have N9 := Fr.app N0 Nq8
  have K10 : ∀ t, Steps p.tables e below (T8.setTop (mkF m 12 #[.val (.int p1), .val (.int p2), .val (.int p3), .val (.int p4), .val (.int p5), .val (.int p6), .val (.ref b2), .unset, .unset, .unset, .unset, .unset, .unset, .unset, .unset, .unset, .unset, .unset, .unset, .unset, .unset] [(.int r8), (.int (0 : Int32)), (.ref b2)])) t → Steps p.tables e below G t := fun t k => K7 t (st8 _ k)
  obtain ⟨cl11, Ar11, qc11, S11, M11, Ha11, Ga11⟩ := id V2
  have hin11 : ¬ ((0 : Int32) < 0 ∨ cl11.slots.size ≤ ((0 : Int32)).toNatClampNeg) := inb_of S11 ⟨by decide, by decide⟩
  obtain ⟨T11, h11, X11, e11, W11, st11⟩ := stC X8 hx hZ e8 Ar11 (j := (0 : Int32)) hin11 (g := (mkF m 12 #[.val (.int p1), .val (.int p2), .val (.int p3), .val (.int p4), .val (.int p5), .val (.int p6), .val (.ref b2), .unset, .unset, .unset, .unset, .unset, .unset, .unset, .unset, .unset, .unset, .unset, .unset, .unset, .unset] [(.int r8), (.int (0 : Int32)), (.ref b2)])) rfl rfl (hb hby at_12)
  have V11 : Arv Z h11 b2 kn2 .char (4 : Int32) [(.int (nar .char r8)), (.int (0 : Int32)), (.int (0 : Int32)), (.int (0 : Int32))] (.int (0 : Int32)) := Arv.set Ar11 qc11 S11 M11 Ha11 Ga11 (fits_nar_char _) W11 0 rfl (Nat.le_of_ble_eq_true rfl)
  have K12 : ∀ t, Steps p.tables e below (T11.setTop (mkF m 13 #[.val (.int p1), .val (.int p2), .val (.int p3), .val (.int p4), .val (.int p5), .val (.int p6), .val (.ref b2), .unset, .unset, .unset, .unset, .unset, .unset, .unset, .unset, .unset, .unset, .unset, .unset, .unset, .unset] [])) t → Steps p.tables e below G t := fun t k => K10 t (st11 t k)
  have f13 := f3.wr W11 g_b2
  have Z14 : n0 ≤ h11.size := Nat.le_trans Z4 (Keep.of_wr W11).1
  have KP15 : Keep h0 h11 [] := KP5.wr W11 (Or.inr sz_b2)
  have N16 := Fr.snoc X11 N9 g_b2
  have K17 : ∀ t, Steps p.tables e below (T11.setTop (mkF m 17 #[.val (.int p1), .val (.int p2), .val (.int p3), .val (.int p4), .val (.int p5), .val (.int p6), .val (.ref b2), .unset, .unset, .unset, .unset, .unset, .unset, .unset, .unset, .unset, .unset, .unset, .unset, .unset, .unset] [(.int p2), (.int (1 : Int32)), (.ref b2)])) t → Steps p.tables e below G t := by
    intro t k
    refine K12 t ?_
    refine XS.aload X11.here hx rfl (hb hby at_13) rfl rfl ?_
    refine XS.iconst X11.here hx rfl (hb hby at_15) ?_
    refine XS.iloadN X11.here hx rfl (hb hby at_16) rfl ?_
    exact k
  obtain ⟨_, _, ⟨T18, L18, kk18, nn18⟩, -, X18, ⟨Lc18, hQ18, lq18, yq18, zq18⟩, st18⟩ := Jvm.LawKit.callS X11 hx (y := (⟨"org/arborlog/pattern/LineTextOffsetByCodePointsPinLaw", "mk", "(I)C"⟩ : MethodName)) hown (mvT hZ (hw _ (List.mem_of_getElem? (i := 1) rfl))) (mvT hZ (hw _ (List.mem_of_getElem? (i := 2) rfl))) (mvT hZ (hw _ (List.mem_of_getElem? (i := 3) rfl))) (mvT hZ (hw _ (List.mem_of_getElem? (i := 4) rfl))) (by decide) (backOf (W := 2) (rm1 l Z a0 hw [] p2 h11 n0 Z14) hZ (hw _ (List.mem_of_getElem? (i := 4) rfl)) (hw _ (List.mem_of_getElem? (i := 3) rfl)) (by decide) (by decide)) (g := (mkF m 17 #[.val (.int p1), .val (.int p2), .val (.int p3), .val (.int p4), .val (.int p5), .val (.int p6), .val (.ref b2), .unset, .unset, .unset, .unset, .unset, .unset, .unset, .unset, .unset, .unset, .unset, .unset, .unset, .unset] [(.int p2), (.int (1 : Int32)), (.ref b2)])) rfl (by rw [hml]; rfl) (argsL := [(.int p2)]) (rest := [(.int (1 : Int32)), (.ref b2)]) (lenOf pd_24 rfl) rfl (by show 2 * 0 + _ ≤ _; exact Nat.le_of_eq rfl) (hb hby at_17) (fun _ _ => ⟨rfl, e11, (by decide : 1 + 0 ≤ _), (by decide : 4 + 0 ≤ _)⟩)
  dsimp only [Pt.U, Pt.locs, Pt.cells, Pt.slots] at X18 lq18 yq18 zq18 st18 hQ18
  subst lq18 yq18 zq18
  obtain ⟨r18, rfl, Nq18, e18⟩ := hQ18
  have N19 := Fr.app N16 Nq18
  have K20 : ∀ t, Steps p.tables e below (T18.setTop (mkF m 20 #[.val (.int p1), .val (.int p2), .val (.int p3), .val (.int p4), .val (.int p5), .val (.int p6), .val (.ref b2), .unset, .unset, .unset, .unset, .unset, .unset, .unset, .unset, .unset, .unset, .unset, .unset, .unset, .unset] [(.int r18), (.int (1 : Int32)), (.ref b2)])) t → Steps p.tables e below G t := fun t k => K17 t (st18 _ k)
  obtain ⟨cl21, Ar21, qc21, S21, M21, Ha21, Ga21⟩ := id V11
  have hin21 : ¬ ((1 : Int32) < 0 ∨ cl21.slots.size ≤ ((1 : Int32)).toNatClampNeg) := inb_of S21 ⟨by decide, by decide⟩
  obtain ⟨T21, h21, X21, e21, W21, st21⟩ := stC X18 hx hZ e18 Ar21 (j := (1 : Int32)) hin21 (g := (mkF m 20 #[.val (.int p1), .val (.int p2), .val (.int p3), .val (.int p4), .val (.int p5), .val (.int p6), .val (.ref b2), .unset, .unset, .unset, .unset, .unset, .unset, .unset, .unset, .unset, .unset, .unset, .unset, .unset, .unset] [(.int r18), (.int (1 : Int32)), (.ref b2)])) rfl rfl (hb hby at_20)
  have V21 : Arv Z h21 b2 kn2 .char (4 : Int32) [(.int (nar .char r8)), (.int (nar .char r18)), (.int (0 : Int32)), (.int (0 : Int32))] (.int (0 : Int32)) := Arv.set Ar21 qc21 S21 M21 Ha21 Ga21 (fits_nar_char _) W21 1 rfl (Nat.le_of_ble_eq_true rfl)
  have K22 : ∀ t, Steps p.tables e below (T21.setTop (mkF m 21 #[.val (.int p1), .val (.int p2), .val (.int p3), .val (.int p4), .val (.int p5), .val (.int p6), .val (.ref b2), .unset, .unset, .unset, .unset, .unset, .unset, .unset, .unset, .unset, .unset, .unset, .unset, .unset, .unset] [])) t → Steps p.tables e below G t := fun t k => K20 t (st21 t k)
  have f23 := f13.wr W21 g_b2
  have Z24 : n0 ≤ h21.size := Nat.le_trans Z14 (Keep.of_wr W21).1
  have KP25 : Keep h0 h21 [] := KP15.wr W21 (Or.inr sz_b2)
  have N26 := Fr.snoc X21 N19 g_b2
  have K27 : ∀ t, Steps p.tables e below (T21.setTop (mkF m 25 #[.val (.int p1), .val (.int p2), .val (.int p3), .val (.int p4), .val (.int p5), .val (.int p6), .val (.ref b2), .unset, .unset, .unset, .unset, .unset, .unset, .unset, .unset, .unset, .unset, .unset, .unset, .unset, .unset] [(.int p3), (.int (2 : Int32)), (.ref b2)])) t → Steps p.tables e below G t := by
    intro t k
    refine K22 t ?_
    refine XS.aload X21.here hx rfl (hb hby at_21) rfl rfl ?_
    refine XS.iconst X21.here hx rfl (hb hby at_23) ?_
    refine XS.iloadN X21.here hx rfl (hb hby at_24) rfl ?_
    exact k
  obtain ⟨_, _, ⟨T28, L28, kk28, nn28⟩, -, X28, ⟨Lc28, hQ28, lq28, yq28, zq28⟩, st28⟩ := Jvm.LawKit.callS X21 hx (y := (⟨"org/arborlog/pattern/LineTextOffsetByCodePointsPinLaw", "mk", "(I)C"⟩ : MethodName)) hown (mvT hZ (hw _ (List.mem_of_getElem? (i := 1) rfl))) (mvT hZ (hw _ (List.mem_of_getElem? (i := 2) rfl))) (mvT hZ (hw _ (List.mem_of_getElem? (i := 3) rfl))) (mvT hZ (hw _ (List.mem_of_getElem? (i := 4) rfl))) (by decide) (backOf (W := 2) (rm1 l Z a0 hw [] p3 h21 n0 Z24) hZ (hw _ (List.mem_of_getElem? (i := 4) rfl)) (hw _ (List.mem_of_getElem? (i := 3) rfl)) (by decide) (by decide)) (g := (mkF m 25 #[.val (.int p1), .val (.int p2), .val (.int p3), .val (.int p4), .val (.int p5), .val (.int p6), .val (.ref b2), .unset, .unset, .unset, .unset, .unset, .unset, .unset, .unset, .unset, .unset, .unset, .unset, .unset, .unset] [(.int p3), (.int (2 : Int32)), (.ref b2)])) rfl (by rw [hml]; rfl) (argsL := [(.int p3)]) (rest := [(.int (2 : Int32)), (.ref b2)]) (lenOf pd_24 rfl) rfl (by show 2 * 0 + _ ≤ _; exact Nat.le_of_eq rfl) (hb hby at_25) (fun _ _ => ⟨rfl, e21, (by decide : 1 + 0 ≤ _), (by decide : 4 + 0 ≤ _)⟩)
  dsimp only [Pt.U, Pt.locs, Pt.cells, Pt.slots] at X28 lq28 yq28 zq28 st28 hQ28
  subst lq28 yq28 zq28
  obtain ⟨r28, rfl, Nq28, e28⟩ := hQ28
  have N29 := Fr.app N26 Nq28
  have K30 : ∀ t, Steps p.tables e below (T28.setTop (mkF m 28 #[.val (.int p1), .val (.int p2), .val (.int p3), .val (.int p4), .val (.int p5), .val (.int p6), .val (.ref b2), .unset, .unset, .unset, .unset, .unset, .unset, .unset, .unset, .unset, .unset, .unset, .unset, .unset, .unset] [(.int r28), (.int (2 : Int32)), (.ref b2)])) t → Steps p.tables e below G t := fun t k => K27 t (st28 _ k)
  obtain ⟨cl31, Ar31, qc31, S31, M31, Ha31, Ga31⟩ := id V21
  have hin31 : ¬ ((2 : Int32) < 0 ∨ cl31.slots.size ≤ ((2 : Int32)).toNatClampNeg) := inb_of S31 ⟨by decide, by decide⟩
  obtain ⟨T31, h31, X31, e31, W31, st31⟩ := stC X28 hx hZ e28 Ar31 (j := (2 : Int32)) hin31 (g := (mkF m 28 #[.val (.int p1), .val (.int p2), .val (.int p3), .val (.int p4), .val (.int p5), .val (.int p6), .val (.ref b2), .unset, .unset, .unset, .unset, .unset, .unset, .unset, .unset, .unset, .unset, .unset, .unset, .unset, .unset] [(.int r28), (.int (2 : Int32)), (.ref b2)])) rfl rfl (hb hby at_28)
  have V31 : Arv Z h31 b2 kn2 .char (4 : Int32) [(.int (nar .char r8)), (.int (nar .char r18)), (.int (nar .char r28)), (.int (0 : Int32))] (.int (0 : Int32)) := Arv.set Ar31 qc31 S31 M31 Ha31 Ga31 (fits_nar_char _) W31 2 rfl (Nat.le_of_ble_eq_true rfl)
  have K32 : ∀ t, Steps p.tables e below (T31.setTop (mkF m 29 #[.val (.int p1), .val (.int p2), .val (.int p3), .val (.int p4), .val (.int p5), .val (.int p6), .val (.ref b2), .unset, .unset, .unset, .unset, .unset, .unset, .unset, .unset, .unset, .unset, .unset, .unset, .unset, .unset] [])) t → Steps p.tables e below G t := fun t k => K30 t (st31 t k)
  have f33 := f23.wr W31 g_b2
  have Z34 : n0 ≤ h31.size := Nat.le_trans Z24 (Keep.of_wr W31).1
  have KP35 : Keep h0 h31 [] := KP25.wr W31 (Or.inr sz_b2)
  have N36 := Fr.snoc X31 N29 g_b2
  have K37 : ∀ t, Steps p.tables e below (T31.setTop (mkF m 33 #[.val (.int p1), .val (.int p2), .val (.int p3), .val (.int p4), .val (.int p5), .val (.int p6), .val (.ref b2), .unset, .unset, .unset, .unset, .unset, .unset, .unset, .unset, .unset, .unset, .unset, .unset, .unset, .unset] [(.int p4), (.int (3 : Int32)), (.ref b2)])) t → Steps p.tables e below G t := by
    intro t k
    refine K32 t ?_
    refine XS.aload X31.here hx rfl (hb hby at_29) rfl rfl ?_
    refine XS.iconst X31.here hx rfl (hb hby at_31) ?_
    refine XS.iloadN X31.here hx rfl (hb hby at_32) rfl ?_
    exact k
  obtain ⟨_, _, ⟨T38, L38, kk38, nn38⟩, -, X38, ⟨Lc38, hQ38, lq38, yq38, zq38⟩, st38⟩ := Jvm.LawKit.callS X31 hx (y := (⟨"org/arborlog/pattern/LineTextOffsetByCodePointsPinLaw", "mk", "(I)C"⟩ : MethodName)) hown (mvT hZ (hw _ (List.mem_of_getElem? (i := 1) rfl))) (mvT hZ (hw _ (List.mem_of_getElem? (i := 2) rfl))) (mvT hZ (hw _ (List.mem_of_getElem? (i := 3) rfl))) (mvT hZ (hw _ (List.mem_of_getElem? (i := 4) rfl))) (by decide) (backOf (W := 2) (rm1 l Z a0 hw [] p4 h31 n0 Z34) hZ (hw _ (List.mem_of_getElem? (i := 4) rfl)) (hw _ (List.mem_of_getElem? (i := 3) rfl)) (by decide) (by decide)) (g := (mkF m 33 #[.val (.int p1), .val (.int p2), .val (.int p3), .val (.int p4), .val (.int p5), .val (.int p6), .val (.ref b2), .unset, .unset, .unset, .unset, .unset, .unset, .unset, .unset, .unset, .unset, .unset, .unset, .unset, .unset] [(.int p4), (.int (3 : Int32)), (.ref b2)])) rfl (by rw [hml]; rfl) (argsL := [(.int p4)]) (rest := [(.int (3 : Int32)), (.ref b2)]) (lenOf pd_24 rfl) rfl (by show 2 * 0 + _ ≤ _; exact Nat.le_of_eq rfl) (hb hby at_33) (fun _ _ => ⟨rfl, e31, (by decide : 1 + 0 ≤ _), (by decide : 4 + 0 ≤ _)⟩)
  dsimp only [Pt.U, Pt.locs, Pt.cells, Pt.slots] at X38 lq38 yq38 zq38 st38 hQ38
  subst lq38 yq38 zq38
  obtain ⟨r38, rfl, Nq38, e38⟩ := hQ38
  have N39 := Fr.app N36 Nq38
  have K40 : ∀ t, Steps p.tables e below (T38.setTop (mkF m 36 #[.val (.int p1), .val (.int p2), .val (.int p3), .val (.int p4), .val (.int p5), .val (.int p6), .val (.ref b2), .unset, .unset, .unset, .unset, .unset, .unset, .unset, .unset, .unset, .unset, .unset, .unset, .unset, .unset] [(.int r38), (.int (3 : Int32)), (.ref b2)])) t → Steps p.tables e below G t := fun t k => K37 t (st38 _ k)
  obtain ⟨cl41, Ar41, qc41, S41, M41, Ha41, Ga41⟩ := id V31
  have hin41 : ¬ ((3 : Int32) < 0 ∨ cl41.slots.size ≤ ((3 : Int32)).toNatClampNeg) := inb_of S41 ⟨by decide, by decide⟩
  obtain ⟨T41, h41, X41, e41, W41, st41⟩ := stC X38 hx hZ e38 Ar41 (j := (3 : Int32)) hin41 (g := (mkF m 36 #[.val (.int p1), .val (.int p2), .val (.int p3), .val (.int p4), .val (.int p5), .val (.int p6), .val (.ref b2), .unset, .unset, .unset, .unset, .unset, .unset, .unset, .unset, .unset, .unset, .unset, .unset, .unset, .unset] [(.int r38), (.int (3 : Int32)), (.ref b2)])) rfl rfl (hb hby at_36)
  have V41 : Arv Z h41 b2 kn2 .char (4 : Int32) [(.int (nar .char r8)), (.int (nar .char r18)), (.int (nar .char r28)), (.int (nar .char r38))] (.int (0 : Int32)) := Arv.set Ar41 qc41 S41 M41 Ha41 Ga41 (fits_nar_char _) W41 3 rfl (Nat.le_of_ble_eq_true rfl)
  have K42 : ∀ t, Steps p.tables e below (T41.setTop (mkF m 37 #[.val (.int p1), .val (.int p2), .val (.int p3), .val (.int p4), .val (.int p5), .val (.int p6), .val (.ref b2), .unset, .unset, .unset, .unset, .unset, .unset, .unset, .unset, .unset, .unset, .unset, .unset, .unset, .unset] [])) t → Steps p.tables e below G t := fun t k => K40 t (st41 t k)
  have f43 := f33.wr W41 g_b2
  have Z44 : n0 ≤ h41.size := Nat.le_trans Z34 (Keep.of_wr W41).1
  have KP45 : Keep h0 h41 [] := KP35.wr W41 (Or.inr sz_b2)
  have N46 := Fr.snoc X41 N39 g_b2
  obtain ⟨ee0, he0⟩ : ∃ z : Int32, z = (nar .char r8) := ⟨_, rfl⟩
  have hr0 : 0 ≤ ee0.toInt ∧ ee0.toInt < 65536 := he0 ▸ (own_nc _).2
  obtain ⟨ee1, he1⟩ : ∃ z : Int32, z = (nar .char r18) := ⟨_, rfl⟩
  have hr1 : 0 ≤ ee1.toInt ∧ ee1.toInt < 65536 := he1 ▸ (own_nc _).2
  obtain ⟨ee2, he2⟩ : ∃ z : Int32, z = (nar .char r28) := ⟨_, rfl⟩
  have hr2 : 0 ≤ ee2.toInt ∧ ee2.toInt < 65536 := he2 ▸ (own_nc _).2
  obtain ⟨ee3, he3⟩ : ∃ z : Int32, z = (nar .char r38) := ⟨_, rfl⟩
  have hr3 : 0 ≤ ee3.toInt ∧ ee3.toInt < 65536 := he3 ▸ (own_nc _).2
  have VE : Arv Z h41 b2 kn2 .char (4 : Int32) [(.int ee0), (.int ee1), (.int ee2), (.int ee3)] (Value.int (0 : Int32)) := by rw [he0, he1, he2, he3]; exact V41
  have hfc : ∀ j : Nat, j < 4 → ([(.int ee0), (.int ee1), (.int ee2), (.int ee3)] : List Value).getD j (Value.int (0 : Int32)) = .int ((fun j => ([ee0, ee1, ee2, ee3] : List Int32).getD j 0) j) := fun j hj => by
    match j, hj with
    | 0, _ => rfl
    | 1, _ => rfl
    | 2, _ => rfl
    | 3, _ => rfl
    | j + 4, h => exact absurd h (by omega)
  have K47 : ∀ t, Steps p.tables e below (T41.setTop (mkF m 42 #[.val (.int p1), .val (.int p2), .val (.int p3), .val (.int p4), .val (.int p5), .val (.int p6), .val (.ref b2), .unset, .unset, .unset, .unset, .unset, .unset, .unset, .unset, .unset, .unset, .unset, .unset, .unset, .unset] [(.int (p5 &&& (7 : Int32)))])) t → Steps p.tables e below G t := by
    intro t k
    refine K42 t ?_
    refine XS.iload X41.here hx rfl (hb hby at_37) rfl ?_
    refine XS.bipush X41.here hx rfl (hb hby at_39) ?_
    refine XS.iand X41.here hx rfl (hb hby at_41) rfl ?_
    exact k
  obtain ⟨cp, h_cp⟩ : ∃ z_ : Int32, z_ = (p5 &&& (7 : Int32)) := ⟨_, rfl⟩
  have K48 : ∀ t, Steps p.tables e below (T41.setTop (mkF m 42 #[.val (.int p1), .val (.int p2), .val (.int p3), .val (.int p4), .val (.int p5), .val (.int p6), .val (.ref b2), .unset, .unset, .unset, .unset, .unset, .unset, .unset, .unset, .unset, .unset, .unset, .unset, .unset, .unset] [(.int cp)])) t → Steps p.tables e below G t := by rw [h_cp]; exact K47
  have hc7 := own_cap p5
  rw [← h_cp] at hc7
  have K49 : ∀ t, Steps p.tables e below (T41.setTop (mkF m 53 #[.val (.int p1), .val (.int p2), .val (.int p3), .val (.int p4), .val (.int p5), .val (.int p6), .val (.ref b2), .val (.int cp), .unset, .unset, .unset, .unset, .unset, .unset, .unset, .unset, .unset, .unset, .unset, .unset, .unset] [(.int ((((p5.toUInt32 >>> ((3 : Int32) &&& 31).toUInt32).toInt32) &&& (7 : Int32)) % (5 : Int32)))])) t → Steps p.tables e below G t := by
    intro t k
    refine K48 t ?_
    refine XS.istore X41.here hx rfl (hb hby at_42) rfl (l' := #[.val (.int p1), .val (.int p2), .val (.int p3), .val (.int p4), .val (.int p5), .val (.int p6), .val (.ref b2), .val (.int cp), .unset, .unset, .unset, .unset, .unset, .unset, .unset, .unset, .unset, .unset, .unset, .unset, .unset]) rfl ?_
    refine XS.iload X41.here hx rfl (hb hby at_44) rfl ?_
    refine XS.iconst X41.here hx rfl (hb hby at_46) ?_
    refine XS.iushr X41.here hx rfl (hb hby at_47) rfl ?_
    refine XS.bipush X41.here hx rfl (hb hby at_48) ?_
    refine XS.iand X41.here hx rfl (hb hby at_50) rfl ?_
    refine XS.iconst X41.here hx rfl (hb hby at_51) ?_
    refine iremM X41 hx rfl (hb hby at_52) rfl (by decide) ?_
    exact k
  obtain ⟨nv, h_nv⟩ : ∃ z_ : Int32, z_ = ((((p5.toUInt32 >>> ((3 : Int32) &&& 31).toUInt32).toInt32) &&& (7 : Int32)) % (5 : Int32)) := ⟨_, rfl⟩
  have K50 : ∀ t, Steps p.tables e below (T41.setTop (mkF m 53 #[.val (.int p1), .val (.int p2), .val (.int p3), .val (.int p4), .val (.int p5), .val (.int p6), .val (.ref b2), .val (.int cp), .unset, .unset, .unset, .unset, .unset, .unset, .unset, .unset, .unset, .unset, .unset, .unset, .unset] [(.int nv)])) t → Steps p.tables e below G t := by rw [h_nv]; exact K49
  have hn4 : 0 ≤ nv.toInt ∧ nv.toInt ≤ 4 := by rw [h_nv]; exact own_r5 _
  have K51 : ∀ t, Steps p.tables e below (T41.setTop (mkF m 68 #[.val (.int p1), .val (.int p2), .val (.int p3), .val (.int p4), .val (.int p5), .val (.int p6), .val (.ref b2), .val (.int cp), .val (.int nv), .unset, .unset, .unset, .unset, .unset, .unset, .unset, .unset, .unset, .unset, .unset, .unset] [(.int ((((p5.toUInt32 >>> ((6 : Int32) &&& 31).toUInt32).toInt32) &&& (7 : Int32)) % (nv + (1 : Int32))))])) t → Steps p.tables e below G t := by
    intro t k
    refine K50 t ?_
    refine XS.istore X41.here hx rfl (hb hby at_53) rfl (l' := #[.val (.int p1), .val (.int p2), .val (.int p3), .val (.int p4), .val (.int p5), .val (.int p6), .val (.ref b2), .val (.int cp), .val (.int nv), .unset, .unset, .unset, .unset, .unset, .unset, .unset, .unset, .unset, .unset, .unset, .unset]) rfl ?_
    refine XS.iload X41.here hx rfl (hb hby at_55) rfl ?_
    refine XS.bipush X41.here hx rfl (hb hby at_57) ?_
    refine XS.iushr X41.here hx rfl (hb hby at_59) rfl ?_
    refine XS.bipush X41.here hx rfl (hb hby at_60) ?_
    refine XS.iand X41.here hx rfl (hb hby at_62) rfl ?_
    refine XS.iload X41.here hx rfl (hb hby at_63) rfl ?_
    refine XS.iconst X41.here hx rfl (hb hby at_65) ?_
    refine XS.iadd X41.here hx rfl (hb hby at_66) rfl ?_
    refine iremM X41 hx rfl (hb hby at_67) rfl (own_n1 hn4).2 ?_
    exact k
  obtain ⟨ix, h_ix⟩ : ∃ z_ : Int32, z_ = ((((p5.toUInt32 >>> ((6 : Int32) &&& 31).toUInt32).toInt32) &&& (7 : Int32)) % (nv + (1 : Int32))) := ⟨_, rfl⟩
  have K52 : ∀ t, Steps p.tables e below (T41.setTop (mkF m 68 #[.val (.int p1), .val (.int p2), .val (.int p3), .val (.int p4), .val (.int p5), .val (.int p6), .val (.ref b2), .val (.int cp), .val (.int nv), .unset, .unset, .unset, .unset, .unset, .unset, .unset, .unset, .unset, .unset, .unset, .unset] [(.int ix)])) t → Steps p.tables e below G t := by rw [h_ix]; exact K51
  have hix : 0 ≤ ix.toInt ∧ ix.toInt ≤ nv.toInt := by rw [h_ix]; exact own_rn (own_m7 _) hn4
  have K53 : ∀ t, Steps p.tables e below (T41.setTop (mkF m 74 #[.val (.int p1), .val (.int p2), .val (.int p3), .val (.int p4), .val (.int p5), .val (.int p6), .val (.ref b2), .val (.int cp), .val (.int nv), .val (.int ix), .unset, .unset, .unset, .unset, .unset, .unset, .unset, .unset, .unset, .unset, .unset] [(.int (p6 &&& (1 : Int32)))])) t → Steps p.tables e below G t := by
    intro t k
    refine K52 t ?_
    refine XS.istore X41.here hx rfl (hb hby at_68) rfl (l' := #[.val (.int p1), .val (.int p2), .val (.int p3), .val (.int p4), .val (.int p5), .val (.int p6), .val (.ref b2), .val (.int cp), .val (.int nv), .val (.int ix), .unset, .unset, .unset, .unset, .unset, .unset, .unset, .unset, .unset, .unset, .unset]) rfl ?_
    refine XS.iload X41.here hx rfl (hb hby at_70) rfl ?_
    refine XS.iconst X41.here hx rfl (hb hby at_72) ?_
    refine XS.iand X41.here hx rfl (hb hby at_73) rfl ?_
    exact k
  by_cases hc54 : (p6 &&& (1 : Int32)) = (0 : Int32)
  · have K55 : ∀ t, Steps p.tables e below (T41.setTop (mkF m 101 #[.val (.int p1), .val (.int p2), .val (.int p3), .val (.int p4), .val (.int p5), .val (.int p6), .val (.ref b2), .val (.int cp), .val (.int nv), .val (.int ix), .val (.int (1 : Int32)), .val (.int ((p6.toUInt32 >>> ((1 : Int32) &&& 31).toUInt32).toInt32)), .unset, .unset, .unset, .unset, .unset, .unset, .unset, .unset, .unset] [(.int ix), (.int nv), (.ref b2)])) t → Steps p.tables e below G t := by
      intro t k
      refine K53 t ?_
      refine XS.ifNo X41.here hx rfl (hb hby at_74) rfl ((if0 _ _).trans (teq hc54).2) ?_
      refine XS.iconst X41.here hx rfl (hb hby at_77) ?_
      refine XS.goto X41.here hx rfl (pc0 := 78) (pc' := 82) rfl (hb hby at_78) (by decide) (by decide) ?_
      refine XS.istore X41.here hx rfl (hb hby at_82) rfl (l' := #[.val (.int p1), .val (.int p2), .val (.int p3), .val (.int p4), .val (.int p5), .val (.int p6), .val (.ref b2), .val (.int cp), .val (.int nv), .val (.int ix), .val (.int (1 : Int32)), .unset, .unset, .unset, .unset, .unset, .unset, .unset, .unset, .unset, .unset]) rfl ?_
      refine XS.iload X41.here hx rfl (hb hby at_84) rfl ?_
      refine XS.iconst X41.here hx rfl (hb hby at_86) ?_
      refine XS.iushr X41.here hx rfl (hb hby at_87) rfl ?_
      refine XS.istore X41.here hx rfl (hb hby at_88) rfl (l' := #[.val (.int p1), .val (.int p2), .val (.int p3), .val (.int p4), .val (.int p5), .val (.int p6), .val (.ref b2), .val (.int cp), .val (.int nv), .val (.int ix), .val (.int (1 : Int32)), .val (.int ((p6.toUInt32 >>> ((1 : Int32) &&& 31).toUInt32).toInt32)), .unset, .unset, .unset, .unset, .unset, .unset, .unset, .unset, .unset]) rfl ?_
      refine XS.iload X41.here hx rfl (hb hby at_90) rfl ?_
      refine XS.ifNo X41.here hx rfl (hb hby at_92) rfl ((if0 _ _).trans (feq (by decide)).1) ?_
      refine XS.aload X41.here hx rfl (hb hby at_95) rfl rfl ?_
      refine XS.iload X41.here hx rfl (hb hby at_97) rfl ?_
      refine XS.iload X41.here hx rfl (hb hby at_99) rfl ?_
      exact k
    obtain ⟨_, _, ⟨T56, L56, kk56, nn56⟩, -, X56, ⟨Lc56, hQ56, lq56, yq56, zq56⟩, st56⟩ := Jvm.LawKit.callS X41 hx (y := (⟨"org/arborlog/pattern/LineTextOffsetByCodePointsPinLaw", "fwd", "([CII)I"⟩ : MethodName)) hown (mvT hZ (hw _ (List.mem_of_getElem? (i := 156) rfl))) (mvT hZ (hw _ (List.mem_of_getElem? (i := 157) rfl))) (mvT hZ (hw _ (List.mem_of_getElem? (i := 3) rfl))) (mvT hZ (hw _ (List.mem_of_getElem? (i := 158) rfl))) (by decide) (backOf (W := 0) (rm35 l Z a0 hw [] b2 nv ix kn2 (4 : Int32) [(.int ee0), (.int ee1), (.int ee2), (.int ee3)] (fun j => ([ee0, ee1, ee2, ee3] : List Int32).getD j 0) h41 n0 Z44 VE hfc (by decide) hn4.2) hZ (hw _ (List.mem_of_getElem? (i := 158) rfl)) (hw _ (List.mem_of_getElem? (i := 3) rfl)) (by decide) (by decide)) (g := (mkF m 101 #[.val (.int p1), .val (.int p2), .val (.int p3), .val (.int p4), .val (.int p5), .val (.int p6), .val (.ref b2), .val (.int cp), .val (.int nv), .val (.int ix), .val (.int (1 : Int32)), .val (.int ((p6.toUInt32 >>> ((1 : Int32) &&& 31).toUInt32).toInt32)), .unset, .unset, .unset, .unset, .unset, .unset, .unset, .unset, .unset] [(.int ix), (.int nv), (.ref b2)])) rfl (by rw [hml]; rfl) (argsL := [(.ref b2), (.int nv), (.int ix)]) (rest := []) (lenOf pd_25 rfl) rfl (by show 2 * 0 + _ ≤ _; exact Nat.le_of_eq rfl) (hb hby at_101) (fun _ _ => ⟨rfl, e41, (by decide : 1 + 0 ≤ _), (by decide : 4 + 0 ≤ _)⟩)
    dsimp only [Pt.U, Pt.locs, Pt.cells, Pt.slots] at X56 lq56 yq56 zq56 st56 hQ56
    subst lq56 yq56 zq56
    obtain ⟨rfl, Nq56, e56⟩ := hQ56
    have N57 := Fr.app N46 Nq56
    have K58 : ∀ t, Steps p.tables e below (T56.setTop (mkF m 104 #[.val (.int p1), .val (.int p2), .val (.int p3), .val (.int p4), .val (.int p5), .val (.int p6), .val (.ref b2), .val (.int cp), .val (.int nv), .val (.int ix), .val (.int (1 : Int32)), .val (.int ((p6.toUInt32 >>> ((1 : Int32) &&& 31).toUInt32).toInt32)), .unset, .unset, .unset, .unset, .unset, .unset, .unset, .unset, .unset] [(.int (own_F (fun j => ([ee0, ee1, ee2, ee3] : List Int32).getD j 0) nv ix))])) t → Steps p.tables e below G t := fun t k => K55 t (st56 _ k)
    obtain ⟨y1, h_y1⟩ : ∃ z_ : Int32, z_ = (own_F (fun j => ([ee0, ee1, ee2, ee3] : List Int32).getD j 0) nv ix) := ⟨_, rfl⟩
    have K59 : ∀ t, Steps p.tables e below (T56.setTop (mkF m 104 #[.val (.int p1), .val (.int p2), .val (.int p3), .val (.int p4), .val (.int p5), .val (.int p6), .val (.ref b2), .val (.int cp), .val (.int nv), .val (.int ix), .val (.int (1 : Int32)), .val (.int ((p6.toUInt32 >>> ((1 : Int32) &&& 31).toUInt32).toInt32)), .unset, .unset, .unset, .unset, .unset, .unset, .unset, .unset, .unset] [(.int y1)])) t → Steps p.tables e below G t := by rw [h_y1]; exact K58
    have K60 : ∀ t, Steps p.tables e below (T56.setTop (mkF m 112 #[.val (.int p1), .val (.int p2), .val (.int p3), .val (.int p4), .val (.int p5), .val (.int p6), .val (.ref b2), .val (.int cp), .val (.int nv), .val (.int ix), .val (.int (1 : Int32)), .val (.int ((p6.toUInt32 >>> ((1 : Int32) &&& 31).toUInt32).toInt32)), .val (.int y1), .unset, .unset, .unset, .unset, .unset, .unset, .unset, .unset] [(.int y1), (.int nv), (.ref b2)])) t → Steps p.tables e below G t := by
      intro t k
      refine K59 t ?_
      refine XS.istore X56.here hx rfl (hb hby at_104) rfl (l' := #[.val (.int p1), .val (.int p2), .val (.int p3), .val (.int p4), .val (.int p5), .val (.int p6), .val (.ref b2), .val (.int cp), .val (.int nv), .val (.int ix), .val (.int (1 : Int32)), .val (.int ((p6.toUInt32 >>> ((1 : Int32) &&& 31).toUInt32).toInt32)), .val (.int y1), .unset, .unset, .unset, .unset, .unset, .unset, .unset, .unset]) rfl ?_
      refine XS.aload X56.here hx rfl (hb hby at_106) rfl rfl ?_
      refine XS.iload X56.here hx rfl (hb hby at_108) rfl ?_
      refine XS.iload X56.here hx rfl (hb hby at_110) rfl ?_
      exact k
    obtain ⟨_, _, ⟨T61, L61, kk61, nn61⟩, -, X61, ⟨Lc61, hQ61, lq61, yq61, zq61⟩, st61⟩ := Jvm.LawKit.callS X56 hx (y := (⟨"org/arborlog/pattern/LineTextOffsetByCodePointsPinLaw", "fwd", "([CII)I"⟩ : MethodName)) hown (mvT hZ (hw _ (List.mem_of_getElem? (i := 156) rfl))) (mvT hZ (hw _ (List.mem_of_getElem? (i := 157) rfl))) (mvT hZ (hw _ (List.mem_of_getElem? (i := 3) rfl))) (mvT hZ (hw _ (List.mem_of_getElem? (i := 158) rfl))) (by decide) (backOf (W := 0) (rm35 l Z a0 hw [] b2 nv y1 kn2 (4 : Int32) [(.int ee0), (.int ee1), (.int ee2), (.int ee3)] (fun j => ([ee0, ee1, ee2, ee3] : List Int32).getD j 0) h41 n0 Z44 VE hfc (by decide) hn4.2) hZ (hw _ (List.mem_of_getElem? (i := 158) rfl)) (hw _ (List.mem_of_getElem? (i := 3) rfl)) (by decide) (by decide)) (g := (mkF m 112 #[.val (.int p1), .val (.int p2), .val (.int p3), .val (.int p4), .val (.int p5), .val (.int p6), .val (.ref b2), .val (.int cp), .val (.int nv), .val (.int ix), .val (.int (1 : Int32)), .val (.int ((p6.toUInt32 >>> ((1 : Int32) &&& 31).toUInt32).toInt32)), .val (.int y1), .unset, .unset, .unset, .unset, .unset, .unset, .unset, .unset] [(.int y1), (.int nv), (.ref b2)])) rfl (by rw [hml]; rfl) (argsL := [(.ref b2), (.int nv), (.int y1)]) (rest := []) (lenOf pd_25 rfl) rfl (by show 2 * 0 + _ ≤ _; exact Nat.le_of_eq rfl) (hb hby at_112) (fun _ _ => ⟨rfl, e56, (by decide : 1 + 0 ≤ _), (by decide : 4 + 0 ≤ _)⟩)
    dsimp only [Pt.U, Pt.locs, Pt.cells, Pt.slots] at X61 lq61 yq61 zq61 st61 hQ61
    subst lq61 yq61 zq61
    obtain ⟨rfl, Nq61, e61⟩ := hQ61
    have N62 := Fr.app N57 Nq61
    have K63 : ∀ t, Steps p.tables e below (T61.setTop (mkF m 115 #[.val (.int p1), .val (.int p2), .val (.int p3), .val (.int p4), .val (.int p5), .val (.int p6), .val (.ref b2), .val (.int cp), .val (.int nv), .val (.int ix), .val (.int (1 : Int32)), .val (.int ((p6.toUInt32 >>> ((1 : Int32) &&& 31).toUInt32).toInt32)), .val (.int y1), .unset, .unset, .unset, .unset, .unset, .unset, .unset, .unset] [(.int (own_F (fun j => ([ee0, ee1, ee2, ee3] : List Int32).getD j 0) nv y1))])) t → Steps p.tables e below G t := fun t k => K60 t (st61 _ k)
    obtain ⟨y2, h_y2⟩ : ∃ z_ : Int32, z_ = (own_F (fun j => ([ee0, ee1, ee2, ee3] : List Int32).getD j 0) nv y1) := ⟨_, rfl⟩
    have K64 : ∀ t, Steps p.tables e below (T61.setTop (mkF m 115 #[.val (.int p1), .val (.int p2), .val (.int p3), .val (.int p4), .val (.int p5), .val (.int p6), .val (.ref b2), .val (.int cp), .val (.int nv), .val (.int ix), .val (.int (1 : Int32)), .val (.int ((p6.toUInt32 >>> ((1 : Int32) &&& 31).toUInt32).toInt32)), .val (.int y1), .unset, .unset, .unset, .unset, .unset, .unset, .unset, .unset] [(.int y2)])) t → Steps p.tables e below G t := by rw [h_y2]; exact K63
    have K65 : ∀ t, Steps p.tables e below (T61.setTop (mkF m 123 #[.val (.int p1), .val (.int p2), .val (.int p3), .val (.int p4), .val (.int p5), .val (.int p6), .val (.ref b2), .val (.int cp), .val (.int nv), .val (.int ix), .val (.int (1 : Int32)), .val (.int ((p6.toUInt32 >>> ((1 : Int32) &&& 31).toUInt32).toInt32)), .val (.int y1), .val (.int y2), .unset, .unset, .unset, .unset, .unset, .unset, .unset] [(.int y2), (.int nv), (.ref b2)])) t → Steps p.tables e below G t := by
      intro t k
      refine K64 t ?_
      refine XS.istore X61.here hx rfl (hb hby at_115) rfl (l' := #[.val (.int p1), .val (.int p2), .val (.int p3), .val (.int p4), .val (.int p5), .val (.int p6), .val (.ref b2), .val (.int cp), .val (.int nv), .val (.int ix), .val (.int (1 : Int32)), .val (.int ((p6.toUInt32 >>> ((1 : Int32) &&& 31).toUInt32).toInt32)), .val (.int y1), .val (.int y2), .unset, .unset, .unset, .unset, .unset, .unset, .unset]) rfl ?_
      refine XS.aload X61.here hx rfl (hb hby at_117) rfl rfl ?_
      refine XS.iload X61.here hx rfl (hb hby at_119) rfl ?_
      refine XS.iload X61.here hx rfl (hb hby at_121) rfl ?_
      exact k
    obtain ⟨_, _, ⟨T66, L66, kk66, nn66⟩, -, X66, ⟨Lc66, hQ66, lq66, yq66, zq66⟩, st66⟩ := Jvm.LawKit.callS X61 hx (y := (⟨"org/arborlog/pattern/LineTextOffsetByCodePointsPinLaw", "fwd", "([CII)I"⟩ : MethodName)) hown (mvT hZ (hw _ (List.mem_of_getElem? (i := 156) rfl))) (mvT hZ (hw _ (List.mem_of_getElem? (i := 157) rfl))) (mvT hZ (hw _ (List.mem_of_getElem? (i := 3) rfl))) (mvT hZ (hw _ (List.mem_of_getElem? (i := 158) rfl))) (by decide) (backOf (W := 0) (rm35 l Z a0 hw [] b2 nv y2 kn2 (4 : Int32) [(.int ee0), (.int ee1), (.int ee2), (.int ee3)] (fun j => ([ee0, ee1, ee2, ee3] : List Int32).getD j 0) h41 n0 Z44 VE hfc (by decide) hn4.2) hZ (hw _ (List.mem_of_getElem? (i := 158) rfl)) (hw _ (List.mem_of_getElem? (i := 3) rfl)) (by decide) (by decide)) (g := (mkF m 123 #[.val (.int p1), .val (.int p2), .val (.int p3), .val (.int p4), .val (.int p5), .val (.int p6), .val (.ref b2), .val (.int cp), .val (.int nv), .val (.int ix), .val (.int (1 : Int32)), .val (.int ((p6.toUInt32 >>> ((1 : Int32) &&& 31).toUInt32).toInt32)), .val (.int y1), .val (.int y2), .unset, .unset, .unset, .unset, .unset, .unset, .unset] [(.int y2), (.int nv), (.ref b2)])) rfl (by rw [hml]; rfl) (argsL := [(.ref b2), (.int nv), (.int y2)]) (rest := []) (lenOf pd_25 rfl) rfl (by show 2 * 0 + _ ≤ _; exact Nat.le_of_eq rfl) (hb hby at_123) (fun _ _ => ⟨rfl, e61, (by decide : 1 + 0 ≤ _), (by decide : 4 + 0 ≤ _)⟩)
    dsimp only [Pt.U, Pt.locs, Pt.cells, Pt.slots] at X66 lq66 yq66 zq66 st66 hQ66
    subst lq66 yq66 zq66
    obtain ⟨rfl, Nq66, e66⟩ := hQ66
    have N67 := Fr.app N62 Nq66
    have K68 : ∀ t, Steps p.tables e below (T66.setTop (mkF m 126 #[.val (.int p1), .val (.int p2), .val (.int p3), .val (.int p4), .val (.int p5), .val (.int p6), .val (.ref b2), .val (.int cp), .val (.int nv), .val (.int ix), .val (.int (1 : Int32)), .val (.int ((p6.toUInt32 >>> ((1 : Int32) &&& 31).toUInt32).toInt32)), .val (.int y1), .val (.int y2), .unset, .unset, .unset, .unset, .unset, .unset, .unset] [(.int (own_F (fun j => ([ee0, ee1, ee2, ee3] : List Int32).getD j 0) nv y2))])) t → Steps p.tables e below G t := fun t k => K65 t (st66 _ k)
    obtain ⟨y3, h_y3⟩ : ∃ z_ : Int32, z_ = (own_F (fun j => ([ee0, ee1, ee2, ee3] : List Int32).getD j 0) nv y2) := ⟨_, rfl⟩
    have K69 : ∀ t, Steps p.tables e below (T66.setTop (mkF m 126 #[.val (.int p1), .val (.int p2), .val (.int p3), .val (.int p4), .val (.int p5), .val (.int p6), .val (.ref b2), .val (.int cp), .val (.int nv), .val (.int ix), .val (.int (1 : Int32)), .val (.int ((p6.toUInt32 >>> ((1 : Int32) &&& 31).toUInt32).toInt32)), .val (.int y1), .val (.int y2), .unset, .unset, .unset, .unset, .unset, .unset, .unset] [(.int y3)])) t → Steps p.tables e below G t := by rw [h_y3]; exact K68
    have K70 : ∀ t, Steps p.tables e below (T66.setTop (mkF m 134 #[.val (.int p1), .val (.int p2), .val (.int p3), .val (.int p4), .val (.int p5), .val (.int p6), .val (.ref b2), .val (.int cp), .val (.int nv), .val (.int ix), .val (.int (1 : Int32)), .val (.int ((p6.toUInt32 >>> ((1 : Int32) &&& 31).toUInt32).toInt32)), .val (.int y1), .val (.int y2), .val (.int y3), .unset, .unset, .unset, .unset, .unset, .unset] [(.int y3), (.int nv), (.ref b2)])) t → Steps p.tables e below G t := by
      intro t k
      refine K69 t ?_
      refine XS.istore X66.here hx rfl (hb hby at_126) rfl (l' := #[.val (.int p1), .val (.int p2), .val (.int p3), .val (.int p4), .val (.int p5), .val (.int p6), .val (.ref b2), .val (.int cp), .val (.int nv), .val (.int ix), .val (.int (1 : Int32)), .val (.int ((p6.toUInt32 >>> ((1 : Int32) &&& 31).toUInt32).toInt32)), .val (.int y1), .val (.int y2), .val (.int y3), .unset, .unset, .unset, .unset, .unset, .unset]) rfl ?_
      refine XS.aload X66.here hx rfl (hb hby at_128) rfl rfl ?_
      refine XS.iload X66.here hx rfl (hb hby at_130) rfl ?_
      refine XS.iload X66.here hx rfl (hb hby at_132) rfl ?_
      exact k
    obtain ⟨_, _, ⟨T71, L71, kk71, nn71⟩, -, X71, ⟨Lc71, hQ71, lq71, yq71, zq71⟩, st71⟩ := Jvm.LawKit.callS X66 hx (y := (⟨"org/arborlog/pattern/LineTextOffsetByCodePointsPinLaw", "fwd", "([CII)I"⟩ : MethodName)) hown (mvT hZ (hw _ (List.mem_of_getElem? (i := 156) rfl))) (mvT hZ (hw _ (List.mem_of_getElem? (i := 157) rfl))) (mvT hZ (hw _ (List.mem_of_getElem? (i := 3) rfl))) (mvT hZ (hw _ (List.mem_of_getElem? (i := 158) rfl))) (by decide) (backOf (W := 0) (rm35 l Z a0 hw [] b2 nv y3 kn2 (4 : Int32) [(.int ee0), (.int ee1), (.int ee2), (.int ee3)] (fun j => ([ee0, ee1, ee2, ee3] : List Int32).getD j 0) h41 n0 Z44 VE hfc (by decide) hn4.2) hZ (hw _ (List.mem_of_getElem? (i := 158) rfl)) (hw _ (List.mem_of_getElem? (i := 3) rfl)) (by decide) (by decide)) (g := (mkF m 134 #[.val (.int p1), .val (.int p2), .val (.int p3), .val (.int p4), .val (.int p5), .val (.int p6), .val (.ref b2), .val (.int cp), .val (.int nv), .val (.int ix), .val (.int (1 : Int32)), .val (.int ((p6.toUInt32 >>> ((1 : Int32) &&& 31).toUInt32).toInt32)), .val (.int y1), .val (.int y2), .val (.int y3), .unset, .unset, .unset, .unset, .unset, .unset] [(.int y3), (.int nv), (.ref b2)])) rfl (by rw [hml]; rfl) (argsL := [(.ref b2), (.int nv), (.int y3)]) (rest := []) (lenOf pd_25 rfl) rfl (by show 2 * 0 + _ ≤ _; exact Nat.le_of_eq rfl) (hb hby at_134) (fun _ _ => ⟨rfl, e66, (by decide : 1 + 0 ≤ _), (by decide : 4 + 0 ≤ _)⟩)
    dsimp only [Pt.U, Pt.locs, Pt.cells, Pt.slots] at X71 lq71 yq71 zq71 st71 hQ71
    subst lq71 yq71 zq71
    obtain ⟨rfl, Nq71, e71⟩ := hQ71
    have N72 := Fr.app N67 Nq71
    have K73 : ∀ t, Steps p.tables e below (T71.setTop (mkF m 137 #[.val (.int p1), .val (.int p2), .val (.int p3), .val (.int p4), .val (.int p5), .val (.int p6), .val (.ref b2), .val (.int cp), .val (.int nv), .val (.int ix), .val (.int (1 : Int32)), .val (.int ((p6.toUInt32 >>> ((1 : Int32) &&& 31).toUInt32).toInt32)), .val (.int y1), .val (.int y2), .val (.int y3), .unset, .unset, .unset, .unset, .unset, .unset] [(.int (own_F (fun j => ([ee0, ee1, ee2, ee3] : List Int32).getD j 0) nv y3))])) t → Steps p.tables e below G t := fun t k => K70 t (st71 _ k)
    obtain ⟨y4, h_y4⟩ : ∃ z_ : Int32, z_ = (own_F (fun j => ([ee0, ee1, ee2, ee3] : List Int32).getD j 0) nv y3) := ⟨_, rfl⟩
    have K74 : ∀ t, Steps p.tables e below (T71.setTop (mkF m 137 #[.val (.int p1), .val (.int p2), .val (.int p3), .val (.int p4), .val (.int p5), .val (.int p6), .val (.ref b2), .val (.int cp), .val (.int nv), .val (.int ix), .val (.int (1 : Int32)), .val (.int ((p6.toUInt32 >>> ((1 : Int32) &&& 31).toUInt32).toInt32)), .val (.int y1), .val (.int y2), .val (.int y3), .unset, .unset, .unset, .unset, .unset, .unset] [(.int y4)])) t → Steps p.tables e below G t := by rw [h_y4]; exact K73
    have K75 : ∀ t, Steps p.tables e below (T71.setTop (mkF m 180 #[.val (.int p1), .val (.int p2), .val (.int p3), .val (.int p4), .val (.int p5), .val (.int p6), .val (.ref b2), .val (.int cp), .val (.int nv), .val (.int ix), .val (.int (1 : Int32)), .val (.int ((p6.toUInt32 >>> ((1 : Int32) &&& 31).toUInt32).toInt32)), .val (.int y1), .val (.int y2), .val (.int y3), .val (.int y4), .unset, .unset, .unset, .unset, .unset] [(.int y1)])) t → Steps p.tables e below G t := by
      intro t k
      refine K74 t ?_
      refine XS.istore X71.here hx rfl (hb hby at_137) rfl (l' := #[.val (.int p1), .val (.int p2), .val (.int p3), .val (.int p4), .val (.int p5), .val (.int p6), .val (.ref b2), .val (.int cp), .val (.int nv), .val (.int ix), .val (.int (1 : Int32)), .val (.int ((p6.toUInt32 >>> ((1 : Int32) &&& 31).toUInt32).toInt32)), .val (.int y1), .val (.int y2), .val (.int y3), .val (.int y4), .unset, .unset, .unset, .unset, .unset]) rfl ?_
      refine XS.goto X71.here hx rfl (pc0 := 139) (pc' := 178) rfl (hb hby at_139) (by decide) (by decide) ?_
      refine XS.iload X71.here hx rfl (hb hby at_178) rfl ?_
      exact k
    have K80 : ∀ t, Steps p.tables e below (T71.setTop (mkF m 215 #[.val (.int p1), .val (.int p2), .val (.int p3), .val (.int p4), .val (.int p5), .val (.int p6), .val (.ref b2), .val (.int cp), .val (.int nv), .val (.int ix), .val (.int (1 : Int32)), .val (.int ((p6.toUInt32 >>> ((1 : Int32) &&& 31).toUInt32).toInt32)), .val (.int y1), .val (.int y2), .val (.int y3), .val (.int y4), .unset, .unset, .unset, .unset, .unset] [(.int (if y1 < (0 : Int32) then (0 : Int32) else (if y2 < (0 : Int32) then (1 : Int32) else (if y3 < (0 : Int32) then (2 : Int32) else (if y4 < (0 : Int32) then (3 : Int32) else (4 : Int32))))))])) t → Steps p.tables e below G t := by
      intro t k
      refine K75 t ?_
      by_cases hc76 : y1 < (0 : Int32)
      · show Steps p.tables e below (T71.setTop (mkF m 180 #[.val (.int p1), .val (.int p2), .val (.int p3), .val (.int p4), .val (.int p5), .val (.int p6), .val (.ref b2), .val (.int cp), .val (.int nv), .val (.int ix), .val (.int (1 : Int32)), .val (.int ((p6.toUInt32 >>> ((1 : Int32) &&& 31).toUInt32).toInt32)), .val (.int y1), .val (.int y2), .val (.int y3), .val (.int y4), .unset, .unset, .unset, .unset, .unset] [(.int y1)])) _
        refine XS.ifNo X71.here hx rfl (hb hby at_180) rfl ((if0 _ _).trans (tlt hc76).2.1) ?_
        show Steps p.tables e below (T71.setTop (mkF m 183 #[.val (.int p1), .val (.int p2), .val (.int p3), .val (.int p4), .val (.int p5), .val (.int p6), .val (.ref b2), .val (.int cp), .val (.int nv), .val (.int ix), .val (.int (1 : Int32)), .val (.int ((p6.toUInt32 >>> ((1 : Int32) &&& 31).toUInt32).toInt32)), .val (.int y1), .val (.int y2), .val (.int y3), .val (.int y4), .unset, .unset, .unset, .unset, .unset] [])) _
        refine XS.iconst X71.here hx rfl (hb hby at_183) ?_
        show Steps p.tables e below (T71.setTop (mkF m 184 #[.val (.int p1), .val (.int p2), .val (.int p3), .val (.int p4), .val (.int p5), .val (.int p6), .val (.ref b2), .val (.int cp), .val (.int nv), .val (.int ix), .val (.int (1 : Int32)), .val (.int ((p6.toUInt32 >>> ((1 : Int32) &&& 31).toUInt32).toInt32)), .val (.int y1), .val (.int y2), .val (.int y3), .val (.int y4), .unset, .unset, .unset, .unset, .unset] [(.int (0 : Int32))])) _
        refine XS.goto X71.here hx rfl (pc0 := 184) (pc' := 215) rfl (hb hby at_184) (by decide) (by decide) ?_
        show Steps p.tables e below (T71.setTop (mkF m 215 #[.val (.int p1), .val (.int p2), .val (.int p3), .val (.int p4), .val (.int p5), .val (.int p6), .val (.ref b2), .val (.int cp), .val (.int nv), .val (.int ix), .val (.int (1 : Int32)), .val (.int ((p6.toUInt32 >>> ((1 : Int32) &&& 31).toUInt32).toInt32)), .val (.int y1), .val (.int y2), .val (.int y3), .val (.int y4), .unset, .unset, .unset, .unset, .unset] [(.int (0 : Int32))])) _
        simp only [if_pos hc76] at k
        exact k
      · show Steps p.tables e below (T71.setTop (mkF m 180 #[.val (.int p1), .val (.int p2), .val (.int p3), .val (.int p4), .val (.int p5), .val (.int p6), .val (.ref b2), .val (.int cp), .val (.int nv), .val (.int ix), .val (.int (1 : Int32)), .val (.int ((p6.toUInt32 >>> ((1 : Int32) &&& 31).toUInt32).toInt32)), .val (.int y1), .val (.int y2), .val (.int y3), .val (.int y4), .unset, .unset, .unset, .unset, .unset] [(.int y1)])) _
        refine XS.ifYes X71.here hx rfl (pc0 := 180) (pc' := 187) rfl (hb hby at_180) rfl ((if0 _ _).trans (flt hc76).2.1) (by decide) (by decide) ?_
        show Steps p.tables e below (T71.setTop (mkF m 187 #[.val (.int p1), .val (.int p2), .val (.int p3), .val (.int p4), .val (.int p5), .val (.int p6), .val (.ref b2), .val (.int cp), .val (.int nv), .val (.int ix), .val (.int (1 : Int32)), .val (.int ((p6.toUInt32 >>> ((1 : Int32) &&& 31).toUInt32).toInt32)), .val (.int y1), .val (.int y2), .val (.int y3), .val (.int y4), .unset, .unset, .unset, .unset, .unset] [])) _
        refine XS.iload X71.here hx rfl (hb hby at_187) rfl ?_
        by_cases hc77 : y2 < (0 : Int32)
        · show Steps p.tables e below (T71.setTop (mkF m 189 #[.val (.int p1), .val (.int p2), .val (.int p3), .val (.int p4), .val (.int p5), .val (.int p6), .val (.ref b2), .val (.int cp), .val (.int nv), .val (.int ix), .val (.int (1 : Int32)), .val (.int ((p6.toUInt32 >>> ((1 : Int32) &&& 31).toUInt32).toInt32)), .val (.int y1), .val (.int y2), .val (.int y3), .val (.int y4), .unset, .unset, .unset, .unset, .unset] [(.int y2)])) _
          refine XS.ifNo X71.here hx rfl (hb hby at_189) rfl ((if0 _ _).trans (tlt hc77).2.1) ?_
          show Steps p.tables e below (T71.setTop (mkF m 192 #[.val (.int p1), .val (.int p2), .val (.int p3), .val (.int p4), .val (.int p5), .val (.int p6), .val (.ref b2), .val (.int cp), .val (.int nv), .val (.int ix), .val (.int (1 : Int32)), .val (.int ((p6.toUInt32 >>> ((1 : Int32) &&& 31).toUInt32).toInt32)), .val (.int y1), .val (.int y2), .val (.int y3), .val (.int y4), .unset, .unset, .unset, .unset, .unset] [])) _
          refine XS.iconst X71.here hx rfl (hb hby at_192) ?_
          show Steps p.tables e below (T71.setTop (mkF m 193 #[.val (.int p1), .val (.int p2), .val (.int p3), .val (.int p4), .val (.int p5), .val (.int p6), .val (.ref b2), .val (.int cp), .val (.int nv), .val (.int ix), .val (.int (1 : Int32)), .val (.int ((p6.toUInt32 >>> ((1 : Int32) &&& 31).toUInt32).toInt32)), .val (.int y1), .val (.int y2), .val (.int y3), .val (.int y4), .unset, .unset, .unset, .unset, .unset] [(.int (1 : Int32))])) _
          refine XS.goto X71.here hx rfl (pc0 := 193) (pc' := 215) rfl (hb hby at_193) (by decide) (by decide) ?_
          show Steps p.tables e below (T71.setTop (mkF m 215 #[.val (.int p1), .val (.int p2), .val (.int p3), .val (.int p4), .val (.int p5), .val (.int p6), .val (.ref b2), .val (.int cp), .val (.int nv), .val (.int ix), .val (.int (1 : Int32)), .val (.int ((p6.toUInt32 >>> ((1 : Int32) &&& 31).toUInt32).toInt32)), .val (.int y1), .val (.int y2), .val (.int y3), .val (.int y4), .unset, .unset, .unset, .unset, .unset] [(.int (1 : Int32))])) _
          simp only [if_neg hc76, if_pos hc77] at k
          exact k
        · show Steps p.tables e below (T71.setTop (mkF m 189 #[.val (.int p1), .val (.int p2), .val (.int p3), .val (.int p4), .val (.int p5), .val (.int p6), .val (.ref b2), .val (.int cp), .val (.int nv), .val (.int ix), .val (.int (1 : Int32)), .val (.int ((p6.toUInt32 >>> ((1 : Int32) &&& 31).toUInt32).toInt32)), .val (.int y1), .val (.int y2), .val (.int y3), .val (.int y4), .unset, .unset, .unset, .unset, .unset] [(.int y2)])) _
          refine XS.ifYes X71.here hx rfl (pc0 := 189) (pc' := 196) rfl (hb hby at_189) rfl ((if0 _ _).trans (flt hc77).2.1) (by decide) (by decide) ?_
          show Steps p.tables e below (T71.setTop (mkF m 196 #[.val (.int p1), .val (.int p2), .val (.int p3), .val (.int p4), .val (.int p5), .val (.int p6), .val (.ref b2), .val (.int cp), .val (.int nv), .val (.int ix), .val (.int (1 : Int32)), .val (.int ((p6.toUInt32 >>> ((1 : Int32) &&& 31).toUInt32).toInt32)), .val (.int y1), .val (.int y2), .val (.int y3), .val (.int y4), .unset, .unset, .unset, .unset, .unset] [])) _
          refine XS.iload X71.here hx rfl (hb hby at_196) rfl ?_
          by_cases hc78 : y3 < (0 : Int32)
          · show Steps p.tables e below (T71.setTop (mkF m 198 #[.val (.int p1), .val (.int p2), .val (.int p3), .val (.int p4), .val (.int p5), .val (.int p6), .val (.ref b2), .val (.int cp), .val (.int nv), .val (.int ix), .val (.int (1 : Int32)), .val (.int ((p6.toUInt32 >>> ((1 : Int32) &&& 31).toUInt32).toInt32)), .val (.int y1), .val (.int y2), .val (.int y3), .val (.int y4), .unset, .unset, .unset, .unset, .unset] [(.int y3)])) _
            refine XS.ifNo X71.here hx rfl (hb hby at_198) rfl ((if0 _ _).trans (tlt hc78).2.1) ?_
            show Steps p.tables e below (T71.setTop (mkF m 201 #[.val (.int p1), .val (.int p2), .val (.int p3), .val (.int p4), .val (.int p5), .val (.int p6), .val (.ref b2), .val (.int cp), .val (.int nv), .val (.int ix), .val (.int (1 : Int32)), .val (.int ((p6.toUInt32 >>> ((1 : Int32) &&& 31).toUInt32).toInt32)), .val (.int y1), .val (.int y2), .val (.int y3), .val (.int y4), .unset, .unset, .unset, .unset, .unset] [])) _
            refine XS.iconst X71.here hx rfl (hb hby at_201) ?_
            show Steps p.tables e below (T71.setTop (mkF m 202 #[.val (.int p1), .val (.int p2), .val (.int p3), .val (.int p4), .val (.int p5), .val (.int p6), .val (.ref b2), .val (.int cp), .val (.int nv), .val (.int ix), .val (.int (1 : Int32)), .val (.int ((p6.toUInt32 >>> ((1 : Int32) &&& 31).toUInt32).toInt32)), .val (.int y1), .val (.int y2), .val (.int y3), .val (.int y4), .unset, .unset, .unset, .unset, .unset] [(.int (2 : Int32))])) _
            refine XS.goto X71.here hx rfl (pc0 := 202) (pc' := 215) rfl (hb hby at_202) (by decide) (by decide) ?_
            show Steps p.tables e below (T71.setTop (mkF m 215 #[.val (.int p1), .val (.int p2), .val (.int p3), .val (.int p4), .val (.int p5), .val (.int p6), .val (.ref b2), .val (.int cp), .val (.int nv), .val (.int ix), .val (.int (1 : Int32)), .val (.int ((p6.toUInt32 >>> ((1 : Int32) &&& 31).toUInt32).toInt32)), .val (.int y1), .val (.int y2), .val (.int y3), .val (.int y4), .unset, .unset, .unset, .unset, .unset] [(.int (2 : Int32))])) _
            simp only [if_neg hc76, if_neg hc77, if_pos hc78] at k
            exact k
          · show Steps p.tables e below (T71.setTop (mkF m 198 #[.val (.int p1), .val (.int p2), .val (.int p3), .val (.int p4), .val (.int p5), .val (.int p6), .val (.ref b2), .val (.int cp), .val (.int nv), .val (.int ix), .val (.int (1 : Int32)), .val (.int ((p6.toUInt32 >>> ((1 : Int32) &&& 31).toUInt32).toInt32)), .val (.int y1), .val (.int y2), .val (.int y3), .val (.int y4), .unset, .unset, .unset, .unset, .unset] [(.int y3)])) _
            refine XS.ifYes X71.here hx rfl (pc0 := 198) (pc' := 205) rfl (hb hby at_198) rfl ((if0 _ _).trans (flt hc78).2.1) (by decide) (by decide) ?_
            show Steps p.tables e below (T71.setTop (mkF m 205 #[.val (.int p1), .val (.int p2), .val (.int p3), .val (.int p4), .val (.int p5), .val (.int p6), .val (.ref b2), .val (.int cp), .val (.int nv), .val (.int ix), .val (.int (1 : Int32)), .val (.int ((p6.toUInt32 >>> ((1 : Int32) &&& 31).toUInt32).toInt32)), .val (.int y1), .val (.int y2), .val (.int y3), .val (.int y4), .unset, .unset, .unset, .unset, .unset] [])) _
            refine XS.iload X71.here hx rfl (hb hby at_205) rfl ?_
            by_cases hc79 : y4 < (0 : Int32)
            · show Steps p.tables e below (T71.setTop (mkF m 207 #[.val (.int p1), .val (.int p2), .val (.int p3), .val (.int p4), .val (.int p5), .val (.int p6), .val (.ref b2), .val (.int cp), .val (.int nv), .val (.int ix), .val (.int (1 : Int32)), .val (.int ((p6.toUInt32 >>> ((1 : Int32) &&& 31).toUInt32).toInt32)), .val (.int y1), .val (.int y2), .val (.int y3), .val (.int y4), .unset, .unset, .unset, .unset, .unset] [(.int y4)])) _
              refine XS.ifNo X71.here hx rfl (hb hby at_207) rfl ((if0 _ _).trans (tlt hc79).2.1) ?_
              show Steps p.tables e below (T71.setTop (mkF m 210 #[.val (.int p1), .val (.int p2), .val (.int p3), .val (.int p4), .val (.int p5), .val (.int p6), .val (.ref b2), .val (.int cp), .val (.int nv), .val (.int ix), .val (.int (1 : Int32)), .val (.int ((p6.toUInt32 >>> ((1 : Int32) &&& 31).toUInt32).toInt32)), .val (.int y1), .val (.int y2), .val (.int y3), .val (.int y4), .unset, .unset, .unset, .unset, .unset] [])) _
              refine XS.iconst X71.here hx rfl (hb hby at_210) ?_
              show Steps p.tables e below (T71.setTop (mkF m 211 #[.val (.int p1), .val (.int p2), .val (.int p3), .val (.int p4), .val (.int p5), .val (.int p6), .val (.ref b2), .val (.int cp), .val (.int nv), .val (.int ix), .val (.int (1 : Int32)), .val (.int ((p6.toUInt32 >>> ((1 : Int32) &&& 31).toUInt32).toInt32)), .val (.int y1), .val (.int y2), .val (.int y3), .val (.int y4), .unset, .unset, .unset, .unset, .unset] [(.int (3 : Int32))])) _
              refine XS.goto X71.here hx rfl (pc0 := 211) (pc' := 215) rfl (hb hby at_211) (by decide) (by decide) ?_
              show Steps p.tables e below (T71.setTop (mkF m 215 #[.val (.int p1), .val (.int p2), .val (.int p3), .val (.int p4), .val (.int p5), .val (.int p6), .val (.ref b2), .val (.int cp), .val (.int nv), .val (.int ix), .val (.int (1 : Int32)), .val (.int ((p6.toUInt32 >>> ((1 : Int32) &&& 31).toUInt32).toInt32)), .val (.int y1), .val (.int y2), .val (.int y3), .val (.int y4), .unset, .unset, .unset, .unset, .unset] [(.int (3 : Int32))])) _
              simp only [if_neg hc76, if_neg hc77, if_neg hc78, if_pos hc79] at k
              exact k
            · show Steps p.tables e below (T71.setTop (mkF m 207 #[.val (.int p1), .val (.int p2), .val (.int p3), .val (.int p4), .val (.int p5), .val (.int p6), .val (.ref b2), .val (.int cp), .val (.int nv), .val (.int ix), .val (.int (1 : Int32)), .val (.int ((p6.toUInt32 >>> ((1 : Int32) &&& 31).toUInt32).toInt32)), .val (.int y1), .val (.int y2), .val (.int y3), .val (.int y4), .unset, .unset, .unset, .unset, .unset] [(.int y4)])) _
              refine XS.ifYes X71.here hx rfl (pc0 := 207) (pc' := 214) rfl (hb hby at_207) rfl ((if0 _ _).trans (flt hc79).2.1) (by decide) (by decide) ?_
              show Steps p.tables e below (T71.setTop (mkF m 214 #[.val (.int p1), .val (.int p2), .val (.int p3), .val (.int p4), .val (.int p5), .val (.int p6), .val (.ref b2), .val (.int cp), .val (.int nv), .val (.int ix), .val (.int (1 : Int32)), .val (.int ((p6.toUInt32 >>> ((1 : Int32) &&& 31).toUInt32).toInt32)), .val (.int y1), .val (.int y2), .val (.int y3), .val (.int y4), .unset, .unset, .unset, .unset, .unset] [])) _
              refine XS.iconst X71.here hx rfl (hb hby at_214) ?_
              show Steps p.tables e below (T71.setTop (mkF m 215 #[.val (.int p1), .val (.int p2), .val (.int p3), .val (.int p4), .val (.int p5), .val (.int p6), .val (.ref b2), .val (.int cp), .val (.int nv), .val (.int ix), .val (.int (1 : Int32)), .val (.int ((p6.toUInt32 >>> ((1 : Int32) &&& 31).toUInt32).toInt32)), .val (.int y1), .val (.int y2), .val (.int y3), .val (.int y4), .unset, .unset, .unset, .unset, .unset] [(.int (4 : Int32))])) _
              simp only [if_neg hc76, if_neg hc77, if_neg hc78, if_neg hc79] at k
              exact k
    obtain ⟨av, h_av⟩ : ∃ z_ : Int32, z_ = (if y1 < (0 : Int32) then (0 : Int32) else (if y2 < (0 : Int32) then (1 : Int32) else (if y3 < (0 : Int32) then (2 : Int32) else (if y4 < (0 : Int32) then (3 : Int32) else (4 : Int32))))) := ⟨_, rfl⟩
    have K81 : ∀ t, Steps p.tables e below (T71.setTop (mkF m 215 #[.val (.int p1), .val (.int p2), .val (.int p3), .val (.int p4), .val (.int p5), .val (.int p6), .val (.ref b2), .val (.int cp), .val (.int nv), .val (.int ix), .val (.int (1 : Int32)), .val (.int ((p6.toUInt32 >>> ((1 : Int32) &&& 31).toUInt32).toInt32)), .val (.int y1), .val (.int y2), .val (.int y3), .val (.int y4), .unset, .unset, .unset, .unset, .unset] [(.int av)])) t → Steps p.tables e below G t := by rw [h_av]; exact K80
    have hav := own_av h_av
    have hav4 : 0 ≤ av.toInt ∧ av.toInt ≤ 4 := hav.2.2.2.2
    have K82 : ∀ t, Steps p.tables e below (T71.setTop (mkF m 224 #[.val (.int p1), .val (.int p2), .val (.int p3), .val (.int p4), .val (.int p5), .val (.int p6), .val (.ref b2), .val (.int cp), .val (.int nv), .val (.int ix), .val (.int (1 : Int32)), .val (.int ((p6.toUInt32 >>> ((1 : Int32) &&& 31).toUInt32).toInt32)), .val (.int y1), .val (.int y2), .val (.int y3), .val (.int y4), .val (.int av), .unset, .unset, .unset, .unset] [(.int (((p6.toUInt32 >>> ((1 : Int32) &&& 31).toUInt32).toInt32) % (av + (1 : Int32))))])) t → Steps p.tables e below G t := by
      intro t k
      refine K81 t ?_
      refine XS.istore X71.here hx rfl (hb hby at_215) rfl (l' := #[.val (.int p1), .val (.int p2), .val (.int p3), .val (.int p4), .val (.int p5), .val (.int p6), .val (.ref b2), .val (.int cp), .val (.int nv), .val (.int ix), .val (.int (1 : Int32)), .val (.int ((p6.toUInt32 >>> ((1 : Int32) &&& 31).toUInt32).toInt32)), .val (.int y1), .val (.int y2), .val (.int y3), .val (.int y4), .val (.int av), .unset, .unset, .unset, .unset]) rfl ?_
      refine XS.iload X71.here hx rfl (hb hby at_217) rfl ?_
      refine XS.iload X71.here hx rfl (hb hby at_219) rfl ?_
      refine XS.iconst X71.here hx rfl (hb hby at_221) ?_
      refine XS.iadd X71.here hx rfl (hb hby at_222) rfl ?_
      refine iremM X71 hx rfl (hb hby at_223) rfl (own_n1 hav4).2 ?_
      exact k
    obtain ⟨t9, h_t9⟩ : ∃ z_ : Int32, z_ = (((p6.toUInt32 >>> ((1 : Int32) &&& 31).toUInt32).toInt32) % (av + (1 : Int32))) := ⟨_, rfl⟩
    have K83 : ∀ t, Steps p.tables e below (T71.setTop (mkF m 224 #[.val (.int p1), .val (.int p2), .val (.int p3), .val (.int p4), .val (.int p5), .val (.int p6), .val (.ref b2), .val (.int cp), .val (.int nv), .val (.int ix), .val (.int (1 : Int32)), .val (.int ((p6.toUInt32 >>> ((1 : Int32) &&& 31).toUInt32).toInt32)), .val (.int y1), .val (.int y2), .val (.int y3), .val (.int y4), .val (.int av), .unset, .unset, .unset, .unset] [(.int t9)])) t → Steps p.tables e below G t := by rw [h_t9]; exact K82
    have ht : 0 ≤ t9.toInt ∧ t9.toInt ≤ av.toInt := by rw [h_t9]; exact own_rn (own_u1 _) hav4
    have K84 : ∀ t, Steps p.tables e below (T71.setTop (mkF m 228 #[.val (.int p1), .val (.int p2), .val (.int p3), .val (.int p4), .val (.int p5), .val (.int p6), .val (.ref b2), .val (.int cp), .val (.int nv), .val (.int ix), .val (.int (1 : Int32)), .val (.int ((p6.toUInt32 >>> ((1 : Int32) &&& 31).toUInt32).toInt32)), .val (.int y1), .val (.int y2), .val (.int y3), .val (.int y4), .val (.int av), .val (.int t9), .unset, .unset, .unset] [(.int t9)])) t → Steps p.tables e below G t := by
      intro t k
      refine K83 t ?_
      refine XS.istore X71.here hx rfl (hb hby at_224) rfl (l' := #[.val (.int p1), .val (.int p2), .val (.int p3), .val (.int p4), .val (.int p5), .val (.int p6), .val (.ref b2), .val (.int cp), .val (.int nv), .val (.int ix), .val (.int (1 : Int32)), .val (.int ((p6.toUInt32 >>> ((1 : Int32) &&& 31).toUInt32).toInt32)), .val (.int y1), .val (.int y2), .val (.int y3), .val (.int y4), .val (.int av), .val (.int t9), .unset, .unset, .unset]) rfl ?_
      refine XS.iload X71.here hx rfl (hb hby at_226) rfl ?_
      exact k
    have K89 : ∀ t, Steps p.tables e below (T71.setTop (mkF m 271 #[.val (.int p1), .val (.int p2), .val (.int p3), .val (.int p4), .val (.int p5), .val (.int p6), .val (.ref b2), .val (.int cp), .val (.int nv), .val (.int ix), .val (.int (1 : Int32)), .val (.int ((p6.toUInt32 >>> ((1 : Int32) &&& 31).toUInt32).toInt32)), .val (.int y1), .val (.int y2), .val (.int y3), .val (.int y4), .val (.int av), .val (.int t9), .unset, .unset, .unset] [(.int (if t9 = (0 : Int32) then ix else (if t9 = (1 : Int32) then y1 else (if t9 = (2 : Int32) then y2 else (if t9 = (3 : Int32) then y3 else y4)))))])) t → Steps p.tables e below G t := by
      intro t k
      refine K84 t ?_
      by_cases hc85 : t9 = (0 : Int32)
      · show Steps p.tables e below (T71.setTop (mkF m 228 #[.val (.int p1), .val (.int p2), .val (.int p3), .val (.int p4), .val (.int p5), .val (.int p6), .val (.ref b2), .val (.int cp), .val (.int nv), .val (.int ix), .val (.int (1 : Int32)), .val (.int ((p6.toUInt32 >>> ((1 : Int32) &&& 31).toUInt32).toInt32)), .val (.int y1), .val (.int y2), .val (.int y3), .val (.int y4), .val (.int av), .val (.int t9), .unset, .unset, .unset] [(.int t9)])) _
        refine XS.ifNo X71.here hx rfl (hb hby at_228) rfl ((if0 _ _).trans (teq hc85).2) ?_
        show Steps p.tables e below (T71.setTop (mkF m 231 #[.val (.int p1), .val (.int p2), .val (.int p3), .val (.int p4), .val (.int p5), .val (.int p6), .val (.ref b2), .val (.int cp), .val (.int nv), .val (.int ix), .val (.int (1 : Int32)), .val (.int ((p6.toUInt32 >>> ((1 : Int32) &&& 31).toUInt32).toInt32)), .val (.int y1), .val (.int y2), .val (.int y3), .val (.int y4), .val (.int av), .val (.int t9), .unset, .unset, .unset] [])) _
        refine XS.iload X71.here hx rfl (hb hby at_231) rfl ?_
        show Steps p.tables e below (T71.setTop (mkF m 233 #[.val (.int p1), .val (.int p2), .val (.int p3), .val (.int p4), .val (.int p5), .val (.int p6), .val (.ref b2), .val (.int cp), .val (.int nv), .val (.int ix), .val (.int (1 : Int32)), .val (.int ((p6.toUInt32 >>> ((1 : Int32) &&& 31).toUInt32).toInt32)), .val (.int y1), .val (.int y2), .val (.int y3), .val (.int y4), .val (.int av), .val (.int t9), .unset, .unset, .unset] [(.int ix)])) _
        refine XS.goto X71.here hx rfl (pc0 := 233) (pc' := 271) rfl (hb hby at_233) (by decide) (by decide) ?_
        show Steps p.tables e below (T71.setTop (mkF m 271 #[.val (.int p1), .val (.int p2), .val (.int p3), .val (.int p4), .val (.int p5), .val (.int p6), .val (.ref b2), .val (.int cp), .val (.int nv), .val (.int ix), .val (.int (1 : Int32)), .val (.int ((p6.toUInt32 >>> ((1 : Int32) &&& 31).toUInt32).toInt32)), .val (.int y1), .val (.int y2), .val (.int y3), .val (.int y4), .val (.int av), .val (.int t9), .unset, .unset, .unset] [(.int ix)])) _
        simp only [if_pos hc85] at k
        exact k
      · show Steps p.tables e below (T71.setTop (mkF m 228 #[.val (.int p1), .val (.int p2), .val (.int p3), .val (.int p4), .val (.int p5), .val (.int p6), .val (.ref b2), .val (.int cp), .val (.int nv), .val (.int ix), .val (.int (1 : Int32)), .val (.int ((p6.toUInt32 >>> ((1 : Int32) &&& 31).toUInt32).toInt32)), .val (.int y1), .val (.int y2), .val (.int y3), .val (.int y4), .val (.int av), .val (.int t9), .unset, .unset, .unset] [(.int t9)])) _
        refine XS.ifYes X71.here hx rfl (pc0 := 228) (pc' := 236) rfl (hb hby at_228) rfl ((if0 _ _).trans (feq hc85).2) (by decide) (by decide) ?_
        show Steps p.tables e below (T71.setTop (mkF m 236 #[.val (.int p1), .val (.int p2), .val (.int p3), .val (.int p4), .val (.int p5), .val (.int p6), .val (.ref b2), .val (.int cp), .val (.int nv), .val (.int ix), .val (.int (1 : Int32)), .val (.int ((p6.toUInt32 >>> ((1 : Int32) &&& 31).toUInt32).toInt32)), .val (.int y1), .val (.int y2), .val (.int y3), .val (.int y4), .val (.int av), .val (.int t9), .unset, .unset, .unset] [])) _
        refine XS.iload X71.here hx rfl (hb hby at_236) rfl ?_
        show Steps p.tables e below (T71.setTop (mkF m 238 #[.val (.int p1), .val (.int p2), .val (.int p3), .val (.int p4), .val (.int p5), .val (.int p6), .val (.ref b2), .val (.int cp), .val (.int nv), .val (.int ix), .val (.int (1 : Int32)), .val (.int ((p6.toUInt32 >>> ((1 : Int32) &&& 31).toUInt32).toInt32)), .val (.int y1), .val (.int y2), .val (.int y3), .val (.int y4), .val (.int av), .val (.int t9), .unset, .unset, .unset] [(.int t9)])) _
        refine XS.iconst X71.here hx rfl (hb hby at_238) ?_
        by_cases hc86 : t9 = (1 : Int32)
        · show Steps p.tables e below (T71.setTop (mkF m 239 #[.val (.int p1), .val (.int p2), .val (.int p3), .val (.int p4), .val (.int p5), .val (.int p6), .val (.ref b2), .val (.int cp), .val (.int nv), .val (.int ix), .val (.int (1 : Int32)), .val (.int ((p6.toUInt32 >>> ((1 : Int32) &&& 31).toUInt32).toInt32)), .val (.int y1), .val (.int y2), .val (.int y3), .val (.int y4), .val (.int av), .val (.int t9), .unset, .unset, .unset] [(.int (1 : Int32)), (.int t9)])) _
          refine XS.icmpNo X71.here hx rfl (hb hby at_239) rfl (teq hc86).2 ?_
          show Steps p.tables e below (T71.setTop (mkF m 242 #[.val (.int p1), .val (.int p2), .val (.int p3), .val (.int p4), .val (.int p5), .val (.int p6), .val (.ref b2), .val (.int cp), .val (.int nv), .val (.int ix), .val (.int (1 : Int32)), .val (.int ((p6.toUInt32 >>> ((1 : Int32) &&& 31).toUInt32).toInt32)), .val (.int y1), .val (.int y2), .val (.int y3), .val (.int y4), .val (.int av), .val (.int t9), .unset, .unset, .unset] [])) _
          refine XS.iload X71.here hx rfl (hb hby at_242) rfl ?_
          show Steps p.tables e below (T71.setTop (mkF m 244 #[.val (.int p1), .val (.int p2), .val (.int p3), .val (.int p4), .val (.int p5), .val (.int p6), .val (.ref b2), .val (.int cp), .val (.int nv), .val (.int ix), .val (.int (1 : Int32)), .val (.int ((p6.toUInt32 >>> ((1 : Int32) &&& 31).toUInt32).toInt32)), .val (.int y1), .val (.int y2), .val (.int y3), .val (.int y4), .val (.int av), .val (.int t9), .unset, .unset, .unset] [(.int y1)])) _
          refine XS.goto X71.here hx rfl (pc0 := 244) (pc' := 271) rfl (hb hby at_244) (by decide) (by decide) ?_
          show Steps p.tables e below (T71.setTop (mkF m 271 #[.val (.int p1), .val (.int p2), .val (.int p3), .val (.int p4), .val (.int p5), .val (.int p6), .val (.ref b2), .val (.int cp), .val (.int nv), .val (.int ix), .val (.int (1 : Int32)), .val (.int ((p6.toUInt32 >>> ((1 : Int32) &&& 31).toUInt32).toInt32)), .val (.int y1), .val (.int y2), .val (.int y3), .val (.int y4), .val (.int av), .val (.int t9), .unset, .unset, .unset] [(.int y1)])) _
          simp only [if_neg hc85, if_pos hc86] at k
          exact k
        · show Steps p.tables e below (T71.setTop (mkF m 239 #[.val (.int p1), .val (.int p2), .val (.int p3), .val (.int p4), .val (.int p5), .val (.int p6), .val (.ref b2), .val (.int cp), .val (.int nv), .val (.int ix), .val (.int (1 : Int32)), .val (.int ((p6.toUInt32 >>> ((1 : Int32) &&& 31).toUInt32).toInt32)), .val (.int y1), .val (.int y2), .val (.int y3), .val (.int y4), .val (.int av), .val (.int t9), .unset, .unset, .unset] [(.int (1 : Int32)), (.int t9)])) _
          refine XS.icmpYes X71.here hx rfl (pc0 := 239) (pc' := 247) rfl (hb hby at_239) rfl (feq hc86).2 (by decide) (by decide) ?_
          show Steps p.tables e below (T71.setTop (mkF m 247 #[.val (.int p1), .val (.int p2), .val (.int p3), .val (.int p4), .val (.int p5), .val (.int p6), .val (.ref b2), .val (.int cp), .val (.int nv), .val (.int ix), .val (.int (1 : Int32)), .val (.int ((p6.toUInt32 >>> ((1 : Int32) &&& 31).toUInt32).toInt32)), .val (.int y1), .val (.int y2), .val (.int y3), .val (.int y4), .val (.int av), .val (.int t9), .unset, .unset, .unset] [])) _
          refine XS.iload X71.here hx rfl (hb hby at_247) rfl ?_
          show Steps p.tables e below (T71.setTop (mkF m 249 #[.val (.int p1), .val (.int p2), .val (.int p3), .val (.int p4), .val (.int p5), .val (.int p6), .val (.ref b2), .val (.int cp), .val (.int nv), .val (.int ix), .val (.int (1 : Int32)), .val (.int ((p6.toUInt32 >>> ((1 : Int32) &&& 31).toUInt32).toInt32)), .val (.int y1), .val (.int y2), .val (.int y3), .val (.int y4), .val (.int av), .val (.int t9), .unset, .unset, .unset] [(.int t9)])) _
          refine XS.iconst X71.here hx rfl (hb hby at_249) ?_
          by_cases hc87 : t9 = (2 : Int32)
          · show Steps p.tables e below (T71.setTop (mkF m 250 #[.val (.int p1), .val (.int p2), .val (.int p3), .val (.int p4), .val (.int p5), .val (.int p6), .val (.ref b2), .val (.int cp), .val (.int nv), .val (.int ix), .val (.int (1 : Int32)), .val (.int ((p6.toUInt32 >>> ((1 : Int32) &&& 31).toUInt32).toInt32)), .val (.int y1), .val (.int y2), .val (.int y3), .val (.int y4), .val (.int av), .val (.int t9), .unset, .unset, .unset] [(.int (2 : Int32)), (.int t9)])) _
            refine XS.icmpNo X71.here hx rfl (hb hby at_250) rfl (teq hc87).2 ?_
            show Steps p.tables e below (T71.setTop (mkF m 253 #[.val (.int p1), .val (.int p2), .val (.int p3), .val (.int p4), .val (.int p5), .val (.int p6), .val (.ref b2), .val (.int cp), .val (.int nv), .val (.int ix), .val (.int (1 : Int32)), .val (.int ((p6.toUInt32 >>> ((1 : Int32) &&& 31).toUInt32).toInt32)), .val (.int y1), .val (.int y2), .val (.int y3), .val (.int y4), .val (.int av), .val (.int t9), .unset, .unset, .unset] [])) _
            refine XS.iload X71.here hx rfl (hb hby at_253) rfl ?_
            show Steps p.tables e below (T71.setTop (mkF m 255 #[.val (.int p1), .val (.int p2), .val (.int p3), .val (.int p4), .val (.int p5), .val (.int p6), .val (.ref b2), .val (.int cp), .val (.int nv), .val (.int ix), .val (.int (1 : Int32)), .val (.int ((p6.toUInt32 >>> ((1 : Int32) &&& 31).toUInt32).toInt32)), .val (.int y1), .val (.int y2), .val (.int y3), .val (.int y4), .val (.int av), .val (.int t9), .unset, .unset, .unset] [(.int y2)])) _
            refine XS.goto X71.here hx rfl (pc0 := 255) (pc' := 271) rfl (hb hby at_255) (by decide) (by decide) ?_
            show Steps p.tables e below (T71.setTop (mkF m 271 #[.val (.int p1), .val (.int p2), .val (.int p3), .val (.int p4), .val (.int p5), .val (.int p6), .val (.ref b2), .val (.int cp), .val (.int nv), .val (.int ix), .val (.int (1 : Int32)), .val (.int ((p6.toUInt32 >>> ((1 : Int32) &&& 31).toUInt32).toInt32)), .val (.int y1), .val (.int y2), .val (.int y3), .val (.int y4), .val (.int av), .val (.int t9), .unset, .unset, .unset] [(.int y2)])) _
            simp only [if_neg hc85, if_neg hc86, if_pos hc87] at k
            exact k
          · show Steps p.tables e below (T71.setTop (mkF m 250 #[.val (.int p1), .val (.int p2), .val (.int p3), .val (.int p4), .val (.int p5), .val (.int p6), .val (.ref b2), .val (.int cp), .val (.int nv), .val (.int ix), .val (.int (1 : Int32)), .val (.int ((p6.toUInt32 >>> ((1 : Int32) &&& 31).toUInt32).toInt32)), .val (.int y1), .val (.int y2), .val (.int y3), .val (.int y4), .val (.int av), .val (.int t9), .unset, .unset, .unset] [(.int (2 : Int32)), (.int t9)])) _
            refine XS.icmpYes X71.here hx rfl (pc0 := 250) (pc' := 258) rfl (hb hby at_250) rfl (feq hc87).2 (by decide) (by decide) ?_
            show Steps p.tables e below (T71.setTop (mkF m 258 #[.val (.int p1), .val (.int p2), .val (.int p3), .val (.int p4), .val (.int p5), .val (.int p6), .val (.ref b2), .val (.int cp), .val (.int nv), .val (.int ix), .val (.int (1 : Int32)), .val (.int ((p6.toUInt32 >>> ((1 : Int32) &&& 31).toUInt32).toInt32)), .val (.int y1), .val (.int y2), .val (.int y3), .val (.int y4), .val (.int av), .val (.int t9), .unset, .unset, .unset] [])) _
            refine XS.iload X71.here hx rfl (hb hby at_258) rfl ?_
            show Steps p.tables e below (T71.setTop (mkF m 260 #[.val (.int p1), .val (.int p2), .val (.int p3), .val (.int p4), .val (.int p5), .val (.int p6), .val (.ref b2), .val (.int cp), .val (.int nv), .val (.int ix), .val (.int (1 : Int32)), .val (.int ((p6.toUInt32 >>> ((1 : Int32) &&& 31).toUInt32).toInt32)), .val (.int y1), .val (.int y2), .val (.int y3), .val (.int y4), .val (.int av), .val (.int t9), .unset, .unset, .unset] [(.int t9)])) _
            refine XS.iconst X71.here hx rfl (hb hby at_260) ?_
            by_cases hc88 : t9 = (3 : Int32)
            · show Steps p.tables e below (T71.setTop (mkF m 261 #[.val (.int p1), .val (.int p2), .val (.int p3), .val (.int p4), .val (.int p5), .val (.int p6), .val (.ref b2), .val (.int cp), .val (.int nv), .val (.int ix), .val (.int (1 : Int32)), .val (.int ((p6.toUInt32 >>> ((1 : Int32) &&& 31).toUInt32).toInt32)), .val (.int y1), .val (.int y2), .val (.int y3), .val (.int y4), .val (.int av), .val (.int t9), .unset, .unset, .unset] [(.int (3 : Int32)), (.int t9)])) _
              refine XS.icmpNo X71.here hx rfl (hb hby at_261) rfl (teq hc88).2 ?_
              show Steps p.tables e below (T71.setTop (mkF m 264 #[.val (.int p1), .val (.int p2), .val (.int p3), .val (.int p4), .val (.int p5), .val (.int p6), .val (.ref b2), .val (.int cp), .val (.int nv), .val (.int ix), .val (.int (1 : Int32)), .val (.int ((p6.toUInt32 >>> ((1 : Int32) &&& 31).toUInt32).toInt32)), .val (.int y1), .val (.int y2), .val (.int y3), .val (.int y4), .val (.int av), .val (.int t9), .unset, .unset, .unset] [])) _
              refine XS.iload X71.here hx rfl (hb hby at_264) rfl ?_
              show Steps p.tables e below (T71.setTop (mkF m 266 #[.val (.int p1), .val (.int p2), .val (.int p3), .val (.int p4), .val (.int p5), .val (.int p6), .val (.ref b2), .val (.int cp), .val (.int nv), .val (.int ix), .val (.int (1 : Int32)), .val (.int ((p6.toUInt32 >>> ((1 : Int32) &&& 31).toUInt32).toInt32)), .val (.int y1), .val (.int y2), .val (.int y3), .val (.int y4), .val (.int av), .val (.int t9), .unset, .unset, .unset] [(.int y3)])) _
              refine XS.goto X71.here hx rfl (pc0 := 266) (pc' := 271) rfl (hb hby at_266) (by decide) (by decide) ?_
              show Steps p.tables e below (T71.setTop (mkF m 271 #[.val (.int p1), .val (.int p2), .val (.int p3), .val (.int p4), .val (.int p5), .val (.int p6), .val (.ref b2), .val (.int cp), .val (.int nv), .val (.int ix), .val (.int (1 : Int32)), .val (.int ((p6.toUInt32 >>> ((1 : Int32) &&& 31).toUInt32).toInt32)), .val (.int y1), .val (.int y2), .val (.int y3), .val (.int y4), .val (.int av), .val (.int t9), .unset, .unset, .unset] [(.int y3)])) _
              simp only [if_neg hc85, if_neg hc86, if_neg hc87, if_pos hc88] at k
              exact k
            · show Steps p.tables e below (T71.setTop (mkF m 261 #[.val (.int p1), .val (.int p2), .val (.int p3), .val (.int p4), .val (.int p5), .val (.int p6), .val (.ref b2), .val (.int cp), .val (.int nv), .val (.int ix), .val (.int (1 : Int32)), .val (.int ((p6.toUInt32 >>> ((1 : Int32) &&& 31).toUInt32).toInt32)), .val (.int y1), .val (.int y2), .val (.int y3), .val (.int y4), .val (.int av), .val (.int t9), .unset, .unset, .unset] [(.int (3 : Int32)), (.int t9)])) _
              refine XS.icmpYes X71.here hx rfl (pc0 := 261) (pc' := 269) rfl (hb hby at_261) rfl (feq hc88).2 (by decide) (by decide) ?_
              show Steps p.tables e below (T71.setTop (mkF m 269 #[.val (.int p1), .val (.int p2), .val (.int p3), .val (.int p4), .val (.int p5), .val (.int p6), .val (.ref b2), .val (.int cp), .val (.int nv), .val (.int ix), .val (.int (1 : Int32)), .val (.int ((p6.toUInt32 >>> ((1 : Int32) &&& 31).toUInt32).toInt32)), .val (.int y1), .val (.int y2), .val (.int y3), .val (.int y4), .val (.int av), .val (.int t9), .unset, .unset, .unset] [])) _
              refine XS.iload X71.here hx rfl (hb hby at_269) rfl ?_
              show Steps p.tables e below (T71.setTop (mkF m 271 #[.val (.int p1), .val (.int p2), .val (.int p3), .val (.int p4), .val (.int p5), .val (.int p6), .val (.ref b2), .val (.int cp), .val (.int nv), .val (.int ix), .val (.int (1 : Int32)), .val (.int ((p6.toUInt32 >>> ((1 : Int32) &&& 31).toUInt32).toInt32)), .val (.int y1), .val (.int y2), .val (.int y3), .val (.int y4), .val (.int av), .val (.int t9), .unset, .unset, .unset] [(.int y4)])) _
              simp only [if_neg hc85, if_neg hc86, if_neg hc87, if_neg hc88] at k
              exact k
    obtain ⟨ex, h_ex⟩ : ∃ z_ : Int32, z_ = (if t9 = (0 : Int32) then ix else (if t9 = (1 : Int32) then y1 else (if t9 = (2 : Int32) then y2 else (if t9 = (3 : Int32) then y3 else y4)))) := ⟨_, rfl⟩
    have K90 : ∀ t, Steps p.tables e below (T71.setTop (mkF m 271 #[.val (.int p1), .val (.int p2), .val (.int p3), .val (.int p4), .val (.int p5), .val (.int p6), .val (.ref b2), .val (.int cp), .val (.int nv), .val (.int ix), .val (.int (1 : Int32)), .val (.int ((p6.toUInt32 >>> ((1 : Int32) &&& 31).toUInt32).toInt32)), .val (.int y1), .val (.int y2), .val (.int y3), .val (.int y4), .val (.int av), .val (.int t9), .unset, .unset, .unset] [(.int ex)])) t → Steps p.tables e below G t := by rw [h_ex]; exact K89
    have K91 : ∀ t, Steps p.tables e below (T71.setTop (mkF m 288 #[.val (.int p1), .val (.int p2), .val (.int p3), .val (.int p4), .val (.int p5), .val (.int p6), .val (.ref b2), .val (.int cp), .val (.int nv), .val (.int ix), .val (.int (1 : Int32)), .val (.int ((p6.toUInt32 >>> ((1 : Int32) &&& 31).toUInt32).toInt32)), .val (.int y1), .val (.int y2), .val (.int y3), .val (.int y4), .val (.int av), .val (.int t9), .val (.int ex), .val (.int t9), .unset] [])) t → Steps p.tables e below G t := by
      intro t k
      refine K90 t ?_
      refine XS.istore X71.here hx rfl (hb hby at_271) rfl (l' := #[.val (.int p1), .val (.int p2), .val (.int p3), .val (.int p4), .val (.int p5), .val (.int p6), .val (.ref b2), .val (.int cp), .val (.int nv), .val (.int ix), .val (.int (1 : Int32)), .val (.int ((p6.toUInt32 >>> ((1 : Int32) &&& 31).toUInt32).toInt32)), .val (.int y1), .val (.int y2), .val (.int y3), .val (.int y4), .val (.int av), .val (.int t9), .val (.int ex), .unset, .unset]) rfl ?_
      refine XS.iload X71.here hx rfl (hb hby at_273) rfl ?_
      refine XS.ifNo X71.here hx rfl (hb hby at_275) rfl ((if0 _ _).trans (feq (by decide)).1) ?_
      refine XS.iload X71.here hx rfl (hb hby at_278) rfl ?_
      refine XS.goto X71.here hx rfl (pc0 := 280) (pc' := 286) rfl (hb hby at_280) (by decide) (by decide) ?_
      refine XS.istore X71.here hx rfl (hb hby at_286) rfl (l' := #[.val (.int p1), .val (.int p2), .val (.int p3), .val (.int p4), .val (.int p5), .val (.int p6), .val (.ref b2), .val (.int cp), .val (.int nv), .val (.int ix), .val (.int (1 : Int32)), .val (.int ((p6.toUInt32 >>> ((1 : Int32) &&& 31).toUInt32).toInt32)), .val (.int y1), .val (.int y2), .val (.int y3), .val (.int y4), .val (.int av), .val (.int t9), .val (.int ex), .val (.int t9), .unset]) rfl ?_
      exact k
    obtain ⟨T92, h92, X92, e92, E92, A92, D92, -, st92⟩ := newO X71 hx hZ hown (hw _ (List.mem_of_getElem? (i := 11) rfl)) (hw _ (List.mem_of_getElem? (i := 12) rfl)) (hw _ (List.mem_of_getElem? (i := 13) rfl)) e71 (g := (mkF m 288 #[.val (.int p1), .val (.int p2), .val (.int p3), .val (.int p4), .val (.int p5), .val (.int p6), .val (.ref b2), .val (.int cp), .val (.int nv), .val (.int ix), .val (.int (1 : Int32)), .val (.int ((p6.toUInt32 >>> ((1 : Int32) &&& 31).toUInt32).toInt32)), .val (.int y1), .val (.int y2), .val (.int y3), .val (.int y4), .val (.int av), .val (.int t9), .val (.int ex), .val (.int t9), .unset] [])) rfl (hb hby at_288) (by decide) (by decide)
    obtain ⟨b92, g92⟩ : ∃ z, z = h41.size := ⟨_, rfl⟩
    rw [← g92] at A92 D92 st92
    have ne_b2_b92 : b2 ≠ b92 := Nat.ne_of_lt (Nat.lt_of_lt_of_le VE.lt (Nat.le_of_eq g92.symm))
    have g_b92 : n0 ≤ b92 := Nat.le_trans Z44 (Nat.le_of_eq g92.symm)
    have sz_b92 : h0.size ≤ b92 := Nat.le_trans KP45.1 (Nat.le_of_eq g92.symm)
    have f93 := f43.ext E92
    have f94 := VE.ext E92
    have Z95 : n0 ≤ h92.size := Nat.le_trans Z44 E92.1
    have KP96 : Keep h0 h92 [] := KP45.ext E92
    have K97 : ∀ t, Steps p.tables e below (T92.setTop (mkF m 291 #[.val (.int p1), .val (.int p2), .val (.int p3), .val (.int p4), .val (.int p5), .val (.int p6), .val (.ref b2), .val (.int cp), .val (.int nv), .val (.int ix), .val (.int (1 : Int32)), .val (.int ((p6.toUInt32 >>> ((1 : Int32) &&& 31).toUInt32).toInt32)), .val (.int y1), .val (.int y2), .val (.int y3), .val (.int y4), .val (.int av), .val (.int t9), .val (.int ex), .val (.int t9), .unset] [(.ref b92)])) t → Steps p.tables e below G t := fun t k => K91 t (st92 t k)
    have f98 : Fld Z h92 b92 "org/arborlog/pattern/LineText" "chars" "[C" .null := D92 (Or.inl (hw _ (List.mem_of_getElem? (i := 21) rfl))) (ty := (.array .char)) (by decide)
    have f99 : Fld Z h92 b92 "org/arborlog/pattern/LineText" "length" "I" (.int (0 : Int32)) := D92 (Or.inl (hw _ (List.mem_of_getElem? (i := 84) rfl))) (ty := .int) (by decide)
    have K100 : ∀ t, Steps p.tables e below (T92.setTop (mkF m 294 #[.val (.int p1), .val (.int p2), .val (.int p3), .val (.int p4), .val (.int p5), .val (.int p6), .val (.ref b2), .val (.int cp), .val (.int nv), .val (.int ix), .val (.int (1 : Int32)), .val (.int ((p6.toUInt32 >>> ((1 : Int32) &&& 31).toUInt32).toInt32)), .val (.int y1), .val (.int y2), .val (.int y3), .val (.int y4), .val (.int av), .val (.int t9), .val (.int ex), .val (.int t9), .unset] [(.int cp), (.ref b92), (.ref b92)])) t → Steps p.tables e below G t := by
      intro t k
      refine K97 t ?_
      refine XS.dup X92.here hx rfl (hb hby at_291) rfl rfl ?_
      refine XS.iload X92.here hx rfl (hb hby at_292) rfl ?_
      exact k
    obtain ⟨_, _, ⟨T101, L101, kk101, nn101⟩, -, X101, ⟨Lc101, hQ101, lq101, yq101, zq101⟩, st101⟩ := X92.specialBack hx (y := (⟨"org/arborlog/pattern/LineText", "<init>", "(I)V"⟩ : MethodName)) rfl hown (mvT hZ (hw _ (List.mem_of_getElem? (i := 14) rfl))) (mvT hZ (hw _ (List.mem_of_getElem? (i := 15) rfl))) (mvT hZ (hw _ (List.mem_of_getElem? (i := 16) rfl))) (by decide) (backOf (W := 1) (rm3 l Z a0 hw [] b92 cp h92 n0 Z95 A92 f98 f99 g_b92 hc7.1 hc7.2.1) hZ (hw _ (List.mem_of_getElem? (i := 16) rfl)) (hw _ (List.mem_of_getElem? (i := 13) rfl)) (by decide) (by decide)) (g := (mkF m 294 #[.val (.int p1), .val (.int p2), .val (.int p3), .val (.int p4), .val (.int p5), .val (.int p6), .val (.ref b2), .val (.int cp), .val (.int nv), .val (.int ix), .val (.int (1 : Int32)), .val (.int ((p6.toUInt32 >>> ((1 : Int32) &&& 31).toUInt32).toInt32)), .val (.int y1), .val (.int y2), .val (.int y3), .val (.int y4), .val (.int av), .val (.int t9), .val (.int ex), .val (.int t9), .unset] [(.int cp), (.ref b92), (.ref b92)])) rfl (by rw [hml]; rfl) (Steps.refl _) (a := b92) (argsL := [(.int cp)]) (rest := [(.ref b92)]) (lenOf pd_20 rfl) rfl (by show 2 * 0 + _ ≤ _; exact Nat.le_of_eq rfl) (hb hby at_294) (fun _ _ => ⟨rfl, e92, (by decide : 2 + 1 ≤ _), (by decide : 6 + 8 ≤ _)⟩)
    dsimp only [Pt.U, Pt.locs, Pt.cells, Pt.slots] at X101 lq101 yq101 zq101 st101 hQ101
    subst lq101 yq101 zq101
    obtain ⟨b101, kb101, rfl, Nq101, K101, sz101, E101', Fc101, Fl101, Vb101⟩ := hQ101
    have N102 := Fr.app N72 Nq101
    have ne_b2_b101 : b2 ≠ b101 := Nat.ne_of_lt (Nat.lt_of_lt_of_le f94.lt sz101)
    have ne_b92_b101 : b92 ≠ b101 := Nat.ne_of_lt (Nat.lt_of_lt_of_le A92.lt sz101)
    have g_b101 : n0 ≤ b101 := Nat.le_trans Z95 sz101
    have sz_b101 : h0.size ≤ b101 := Nat.le_trans KP96.1 sz101
    have f103 := f93.keep K101 (allS g_b92 all0)
    have f104 := f94.keep K101 (ninS ne_b2_b92 nin0)
    have f105 := A92.keep K101
    have Z106 : n0 ≤ T101.heap.size := Nat.le_trans Z95 K101.1
    have KP107 : Keep h0 T101.heap [] := KP96.trans K101 (allS (Or.inr sz_b92) all0)
    have K108 : ∀ t, Steps p.tables e below (T101.setTop (mkF m 297 #[.val (.int p1), .val (.int p2), .val (.int p3), .val (.int p4), .val (.int p5), .val (.int p6), .val (.ref b2), .val (.int cp), .val (.int nv), .val (.int ix), .val (.int (1 : Int32)), .val (.int ((p6.toUInt32 >>> ((1 : Int32) &&& 31).toUInt32).toInt32)), .val (.int y1), .val (.int y2), .val (.int y3), .val (.int y4), .val (.int av), .val (.int t9), .val (.int ex), .val (.int t9), .unset] [(.ref b92)])) t → Steps p.tables e below G t := fun t k => K100 t (st101.trans k)
    have K109 : ∀ t, Steps p.tables e below (T101.setTop (mkF m 301 #[.val (.int p1), .val (.int p2), .val (.int p3), .val (.int p4), .val (.int p5), .val (.int p6), .val (.ref b2), .val (.int cp), .val (.int nv), .val (.int ix), .val (.int (1 : Int32)), .val (.int ((p6.toUInt32 >>> ((1 : Int32) &&& 31).toUInt32).toInt32)), .val (.int y1), .val (.int y2), .val (.int y3), .val (.int y4), .val (.int av), .val (.int t9), .val (.int ex), .val (.int t9), .val (.ref b92)] [(.ref b92)])) t → Steps p.tables e below G t := by
      intro t k
      refine K108 t ?_
      refine XS.astore X101.here hx rfl (hb hby at_297) rfl rfl (l' := #[.val (.int p1), .val (.int p2), .val (.int p3), .val (.int p4), .val (.int p5), .val (.int p6), .val (.ref b2), .val (.int cp), .val (.int nv), .val (.int ix), .val (.int (1 : Int32)), .val (.int ((p6.toUInt32 >>> ((1 : Int32) &&& 31).toUInt32).toInt32)), .val (.int y1), .val (.int y2), .val (.int y3), .val (.int y4), .val (.int av), .val (.int t9), .val (.int ex), .val (.int t9), .val (.ref b92)]) rfl ?_
      refine XS.aload X101.here hx rfl (hb hby at_299) rfl rfl ?_
      exact k
    obtain ⟨T110, h110, X110, e110, E110, A110, D110, -, st110⟩ := newO X101 hx hZ hown (hw _ (List.mem_of_getElem? (i := 22) rfl)) (hw _ (List.mem_of_getElem? (i := 23) rfl)) (hw _ (List.mem_of_getElem? (i := 24) rfl)) rfl (g := (mkF m 301 #[.val (.int p1), .val (.int p2), .val (.int p3), .val (.int p4), .val (.int p5), .val (.int p6), .val (.ref b2), .val (.int cp), .val (.int nv), .val (.int ix), .val (.int (1 : Int32)), .val (.int ((p6.toUInt32 >>> ((1 : Int32) &&& 31).toUInt32).toInt32)), .val (.int y1), .val (.int y2), .val (.int y3), .val (.int y4), .val (.int av), .val (.int t9), .val (.int ex), .val (.int t9), .val (.ref b92)] [(.ref b92)])) rfl (hb hby at_301) (by decide) (by decide)
    obtain ⟨b110, g110⟩ : ∃ z, z = T101.heap.size := ⟨_, rfl⟩
    rw [← g110] at A110 D110 st110
    have ne_b2_b110 : b2 ≠ b110 := Nat.ne_of_lt (Nat.lt_of_lt_of_le f104.lt (Nat.le_of_eq g110.symm))
    have ne_b92_b110 : b92 ≠ b110 := Nat.ne_of_lt (Nat.lt_of_lt_of_le E101'.lt (Nat.le_of_eq g110.symm))
    have ne_b101_b110 : b101 ≠ b110 := Nat.ne_of_lt (Nat.lt_of_lt_of_le Vb101.lt (Nat.le_of_eq g110.symm))
    have g_b110 : n0 ≤ b110 := Nat.le_trans Z106 (Nat.le_of_eq g110.symm)
    have sz_b110 : h0.size ≤ b110 := Nat.le_trans KP107.1 (Nat.le_of_eq g110.symm)
    have f111 := f103.ext E110
    have f112 := f104.ext E110
    have f113 := E101'.ext E110
    have f114 := Fc101.ext E110
    have f115 := Fl101.ext E110
    have f116 := Vb101.ext E110
    have Z117 : n0 ≤ h110.size := Nat.le_trans Z106 E110.1
    have KP118 : Keep h0 h110 [] := KP107.ext E110
    have K119 : ∀ t, Steps p.tables e below (T110.setTop (mkF m 304 #[.val (.int p1), .val (.int p2), .val (.int p3), .val (.int p4), .val (.int p5), .val (.int p6), .val (.ref b2), .val (.int cp), .val (.int nv), .val (.int ix), .val (.int (1 : Int32)), .val (.int ((p6.toUInt32 >>> ((1 : Int32) &&& 31).toUInt32).toInt32)), .val (.int y1), .val (.int y2), .val (.int y3), .val (.int y4), .val (.int av), .val (.int t9), .val (.int ex), .val (.int t9), .val (.ref b92)] [(.ref b110), (.ref b92)])) t → Steps p.tables e below G t := fun t k => K109 t (st110 t k)
    have f120 : Fld Z h110 b110 "java/lang/String" "coder" "B" (.int (0 : Int32)) := D110 (Or.inr (hw _ (List.mem_of_getElem? (i := 65) rfl))) (ty := .byte) (by decide)
    have f121 : Fld Z h110 b110 "java/lang/String" "value" "[B" .null := D110 (Or.inr (hw _ (List.mem_of_getElem? (i := 67) rfl))) (ty := (.array .byte)) (by decide)
    have K122 : ∀ t, Steps p.tables e below (T110.setTop (mkF m 307 #[.val (.int p1), .val (.int p2), .val (.int p3), .val (.int p4), .val (.int p5), .val (.int p6), .val (.ref b2), .val (.int cp), .val (.int nv), .val (.int ix), .val (.int (1 : Int32)), .val (.int ((p6.toUInt32 >>> ((1 : Int32) &&& 31).toUInt32).toInt32)), .val (.int y1), .val (.int y2), .val (.int y3), .val (.int y4), .val (.int av), .val (.int t9), .val (.int ex), .val (.int t9), .val (.ref b92)] [(.ref b2), (.ref b110), (.ref b110), (.ref b92)])) t → Steps p.tables e below G t := by
      intro t k
      refine K119 t ?_
      refine XS.dup X110.here hx rfl (hb hby at_304) rfl rfl ?_
      refine XS.aload X110.here hx rfl (hb hby at_305) rfl rfl ?_
      exact k
    obtain ⟨_, _, ⟨T123, L123, kk123, nn123⟩, -, X123, ⟨Lc123, hQ123, lq123, yq123, zq123⟩, st123⟩ := X110.specialBack hx (y := (⟨"java/lang/String", "<init>", "([C)V"⟩ : MethodName)) rfl hown (mvT hZ (hw _ (List.mem_of_getElem? (i := 25) rfl))) (mvT hZ (hw _ (List.mem_of_getElem? (i := 26) rfl))) (mvT hZ (hw _ (List.mem_of_getElem? (i := 27) rfl))) (by decide) (backOf (W := 2) (rm5 l Z a0 hw [] b110 b2 kn2 ee0 ee1 ee2 ee3 cs fv h110 n0 Z117 A110 f121 f120 f112 (Ne.symm ne_b2_b110) g_b110 hr0 hr1 hr2 hr3 SC hcs SA SH SL SF hfv f111) hZ (hw _ (List.mem_of_getElem? (i := 27) rfl)) (hw _ (List.mem_of_getElem? (i := 24) rfl)) (by decide) (by decide)) (g := (mkF m 307 #[.val (.int p1), .val (.int p2), .val (.int p3), .val (.int p4), .val (.int p5), .val (.int p6), .val (.ref b2), .val (.int cp), .val (.int nv), .val (.int ix), .val (.int (1 : Int32)), .val (.int ((p6.toUInt32 >>> ((1 : Int32) &&& 31).toUInt32).toInt32)), .val (.int y1), .val (.int y2), .val (.int y3), .val (.int y4), .val (.int av), .val (.int t9), .val (.int ex), .val (.int t9), .val (.ref b92)] [(.ref b2), (.ref b110), (.ref b110), (.ref b92)])) rfl (by rw [hml]; rfl) (Steps.refl _) (a := b110) (argsL := [(.ref b2)]) (rest := [(.ref b110), (.ref b92)]) (lenOf pd_26 rfl) rfl (by show 2 * 0 + _ ≤ _; exact Nat.le_of_eq rfl) (hb hby at_307) (fun _ _ => ⟨rfl, e110, (by decide : 4 + 2 ≤ _), (by decide : 18 + 12 ≤ _)⟩)
    dsimp only [Pt.U, Pt.locs, Pt.cells, Pt.slots] at X123 lq123 yq123 zq123 st123 hQ123
    subst lq123 yq123 zq123
    obtain ⟨b123, kb123, zb123, co123, vb123, rfl, Nq123, K123, sz123, E123', Fv123, Fc123, Vb123, hsp123⟩ := hQ123
    have N124 := Fr.app N102 Nq123
    have ne_b2_b123 : b2 ≠ b123 := Nat.ne_of_lt (Nat.lt_of_lt_of_le f112.lt sz123)
    have ne_b92_b123 : b92 ≠ b123 := Nat.ne_of_lt (Nat.lt_of_lt_of_le f113.lt sz123)
    have ne_b101_b123 : b101 ≠ b123 := Nat.ne_of_lt (Nat.lt_of_lt_of_le f116.lt sz123)
    have ne_b110_b123 : b110 ≠ b123 := Nat.ne_of_lt (Nat.lt_of_lt_of_le A110.lt sz123)
    have g_b123 : n0 ≤ b123 := Nat.le_trans Z117 sz123
    have sz_b123 : h0.size ≤ b123 := Nat.le_trans KP118.1 sz123
    have f125 := f111.keep K123 (allS g_b110 all0)
    have f126 := f112.keep K123 (ninS ne_b2_b110 nin0)
    have f127 := f113.keep K123
    have f128 := f114.keep K123 (ninS ne_b92_b110 nin0)
    have f129 := f115.keep K123 (ninS ne_b92_b110 nin0)
    have f130 := f116.keep K123 (ninS ne_b101_b110 nin0)
    have f131 := A110.keep K123
    have Z132 : n0 ≤ T123.heap.size := Nat.le_trans Z117 K123.1
    have KP133 : Keep h0 T123.heap [] := KP118.trans K123 (allS (Or.inr sz_b110) all0)
    have K134 : ∀ t, Steps p.tables e below (T123.setTop (mkF m 310 #[.val (.int p1), .val (.int p2), .val (.int p3), .val (.int p4), .val (.int p5), .val (.int p6), .val (.ref b2), .val (.int cp), .val (.int nv), .val (.int ix), .val (.int (1 : Int32)), .val (.int ((p6.toUInt32 >>> ((1 : Int32) &&& 31).toUInt32).toInt32)), .val (.int y1), .val (.int y2), .val (.int y3), .val (.int y4), .val (.int av), .val (.int t9), .val (.int ex), .val (.int t9), .val (.ref b92)] [(.ref b110), (.ref b92)])) t → Steps p.tables e below G t := fun t k => K122 t (st123.trans k)
    obtain ⟨cq135, kq135, q135a, q135b, q135c⟩ := isOf hZ rfl f127
    obtain ⟨_, _, ⟨T135, L135, kk135, nn135⟩, -, X135, ⟨Lc135, hQ135, lq135, yq135, zq135⟩, st135⟩ := X123.virtualBack hx (y := (⟨"org/arborlog/pattern/LineText", "append", "(Ljava/lang/String;)Lorg/arborlog/pattern/LineText;"⟩ : MethodName)) (z := (⟨"org/arborlog/pattern/LineText", "append", "(Ljava/lang/String;)Lorg/arborlog/pattern/LineText;"⟩ : MethodName)) hown (mvT hZ (hw _ (List.mem_of_getElem? (i := 68) rfl))) (mvT hZ (hw _ (List.mem_of_getElem? (i := 69) rfl))) (notFace_of_selects (args := #[]) (mvT hZ (hw _ (List.mem_of_getElem? (i := 71) rfl)))) (mvT hZ (hw _ (List.mem_of_getElem? (i := 71) rfl))) (mvT hZ (hw _ (List.mem_of_getElem? (i := 70) rfl))) (by decide) (backOf (W := 0) (rm15 l Z a0 hw [] b92 b110 b101 kb101 cp [] b123 kb123 zb123 co123 vb123 ee0 ee1 ee2 ee3 cs fv T123.heap n0 Z132 f127 f128 f129 f130 E123' Fv123 Fc123 Vb123 hsp123 ne_b92_b101 ne_b92_b110 ne_b92_b123 (Ne.symm ne_b101_b110) (Ne.symm ne_b101_b123) g_b92 g_b101 hc7.1 hc7.2.2 hr0 hr1 hr2 hr3 SC hcs SA SH SL SF hfv f125) hZ (hw _ (List.mem_of_getElem? (i := 72) rfl)) (hw _ (List.mem_of_getElem? (i := 13) rfl)) (by decide) (by decide)) q135a q135c (g := (mkF m 310 #[.val (.int p1), .val (.int p2), .val (.int p3), .val (.int p4), .val (.int p5), .val (.int p6), .val (.ref b2), .val (.int cp), .val (.int nv), .val (.int ix), .val (.int (1 : Int32)), .val (.int ((p6.toUInt32 >>> ((1 : Int32) &&& 31).toUInt32).toInt32)), .val (.int y1), .val (.int y2), .val (.int y3), .val (.int y4), .val (.int av), .val (.int t9), .val (.int ex), .val (.int t9), .val (.ref b92)] [(.ref b110), (.ref b92)])) rfl (by rw [hml]; rfl) (Steps.refl _) (argsL := [(.ref b110)]) (rest := []) (lenOf pd_27 rfl) rfl (by show 2 * 0 + _ ≤ _; exact Nat.le_of_eq rfl) (hb hby at_310) (fun _ _ => ⟨rfl, rfl, (by decide : 6 + 1 ≤ _), (by decide : 30 + 10 ≤ _)⟩)
    dsimp only [Pt.U, Pt.locs, Pt.cells, Pt.slots] at X135 lq135 yq135 zq135 st135 hQ135
    subst lq135 yq135 zq135
    obtain ⟨b135, kb135, zb135, vs135, rfl, Nq135, K135, ob135, E135', Fc135, Fl135, Vb135, hz135, ct135⟩ := hQ135
    have N136 := Fr.app N124 Nq135
    have gb135 : n0 ≤ b135 := ob135.elim (fun q => q ▸ g_b101) (fun q => Nat.le_trans Z132 q)
    have sz135 : h0.size ≤ b135 := ob135.elim (fun q => q ▸ sz_b101) (fun q => Nat.le_trans KP133.1 q)
    have ne_b2_b135 : b2 ≠ b135 := ob135.elim (fun q => q ▸ ne_b2_b101) (fun q => Nat.ne_of_lt (Nat.lt_of_lt_of_le f126.lt q))
    have ne_b92_b135 : b92 ≠ b135 := ob135.elim (fun q => q ▸ ne_b92_b101) (fun q => Nat.ne_of_lt (Nat.lt_of_lt_of_le f127.lt q))
    have ne_b110_b135 : b110 ≠ b135 := ob135.elim (fun q => q ▸ (Ne.symm ne_b101_b110)) (fun q => Nat.ne_of_lt (Nat.lt_of_lt_of_le E123'.lt q))
    have ne_b123_b135 : b123 ≠ b135 := ob135.elim (fun q => q ▸ (Ne.symm ne_b101_b123)) (fun q => Nat.ne_of_lt (Nat.lt_of_lt_of_le Vb123.lt q))
    have f137 := f125.keep K135 (allS g_b92 (allS g_b101 all0))
    have f138 := f126.keep K135 (ninS ne_b2_b92 (ninS ne_b2_b101 nin0))
    have f139 := f127.keep K135
    have f140 := E123'.keep K135
    have f141 := Fv123.keep K135 (ninS (Ne.symm ne_b92_b110) (ninS (Ne.symm ne_b101_b110) nin0))
    have f142 := Fc123.keep K135 (ninS (Ne.symm ne_b92_b110) (ninS (Ne.symm ne_b101_b110) nin0))
    have f143 := Vb123.keep K135 (ninS (Ne.symm ne_b92_b123) (ninS (Ne.symm ne_b101_b123) nin0))
    have Z144 : n0 ≤ T135.heap.size := Nat.le_trans Z132 K135.1
    have KP145 : Keep h0 T135.heap [] := KP133.trans K135 (allS (Or.inr sz_b92) (allS (Or.inr sz_b101) all0))
    have K146 : ∀ t, Steps p.tables e below (T135.setTop (mkF m 313 #[.val (.int p1), .val (.int p2), .val (.int p3), .val (.int p4), .val (.int p5), .val (.int p6), .val (.ref b2), .val (.int cp), .val (.int nv), .val (.int ix), .val (.int (1 : Int32)), .val (.int ((p6.toUInt32 >>> ((1 : Int32) &&& 31).toUInt32).toInt32)), .val (.int y1), .val (.int y2), .val (.int y3), .val (.int y4), .val (.int av), .val (.int t9), .val (.int ex), .val (.int t9), .val (.ref b92)] [(.ref b92)])) t → Steps p.tables e below G t := fun t k => K134 t (st135.trans k)
    have K147 : ∀ t, Steps p.tables e below (T135.setTop (mkF m 318 #[.val (.int p1), .val (.int p2), .val (.int p3), .val (.int p4), .val (.int p5), .val (.int p6), .val (.ref b2), .val (.int cp), .val (.int nv), .val (.int ix), .val (.int (1 : Int32)), .val (.int ((p6.toUInt32 >>> ((1 : Int32) &&& 31).toUInt32).toInt32)), .val (.int y1), .val (.int y2), .val (.int y3), .val (.int y4), .val (.int av), .val (.int t9), .val (.int ex), .val (.int t9), .val (.ref b92)] [(.int nv), (.ref b92)])) t → Steps p.tables e below G t := by
      intro t k
      refine K146 t ?_
      refine XS.pop X135.here hx rfl (hb hby at_313) rfl rfl ?_
      refine XS.aload X135.here hx rfl (hb hby at_314) rfl rfl ?_
      refine XS.iload X135.here hx rfl (hb hby at_316) rfl ?_
      exact k
    obtain ⟨cq148, kq148, q148a, q148b, q148c⟩ := isOf hZ rfl E135'
    obtain ⟨_, _, ⟨T148, L148, kk148, nn148⟩, -, X148, ⟨Lc148, hQ148, lq148, yq148, zq148⟩, st148⟩ := X135.virtualBack hx (y := (⟨"org/arborlog/pattern/LineText", "truncate", "(I)V"⟩ : MethodName)) (z := (⟨"org/arborlog/pattern/LineText", "truncate", "(I)V"⟩ : MethodName)) hown (mvT hZ (hw _ (List.mem_of_getElem? (i := 139) rfl))) (mvT hZ (hw _ (List.mem_of_getElem? (i := 140) rfl))) (notFace_of_selects (args := #[]) (mvT hZ (hw _ (List.mem_of_getElem? (i := 142) rfl)))) (mvT hZ (hw _ (List.mem_of_getElem? (i := 142) rfl))) (mvT hZ (hw _ (List.mem_of_getElem? (i := 141) rfl))) (by decide) (backOf (W := 0) (rm31 l Z a0 hw [] b92 nv b135 (4 : Int32) T135.heap n0 Z144 E135' Fc135 Fl135 g_b92) hZ (hw _ (List.mem_of_getElem? (i := 143) rfl)) (hw _ (List.mem_of_getElem? (i := 13) rfl)) (by decide) (by decide)) q148a q148c (g := (mkF m 318 #[.val (.int p1), .val (.int p2), .val (.int p3), .val (.int p4), .val (.int p5), .val (.int p6), .val (.ref b2), .val (.int cp), .val (.int nv), .val (.int ix), .val (.int (1 : Int32)), .val (.int ((p6.toUInt32 >>> ((1 : Int32) &&& 31).toUInt32).toInt32)), .val (.int y1), .val (.int y2), .val (.int y3), .val (.int y4), .val (.int av), .val (.int t9), .val (.int ex), .val (.int t9), .val (.ref b92)] [(.int nv), (.ref b92)])) rfl (by rw [hml]; rfl) (Steps.refl _) (argsL := [(.int nv)]) (rest := []) (lenOf pd_20 rfl) rfl (by show 2 * 0 + _ ≤ _; exact Nat.le_of_eq rfl) (hb hby at_318) (fun _ _ => ⟨rfl, rfl, (by decide : 7 + 0 ≤ _), (by decide : 40 + 0 ≤ _)⟩)
    dsimp only [Pt.U, Pt.locs, Pt.cells, Pt.slots] at X148 lq148 yq148 zq148 st148 hQ148
    subst lq148 yq148 zq148
    obtain ⟨rfl, Nq148, K148, E148', Fc148, Fl148⟩ := hQ148
    have N149 := Fr.app N136 Nq148
    have f150 := f137.keep K148 (allS g_b92 all0)
    have f151 := f138.keep K148 (ninS ne_b2_b92 nin0)
    have f152 := E135'.keep K148
    have f153 := f140.keep K148
    have f154 := f141.keep K148 (ninS (Ne.symm ne_b92_b110) nin0)
    have f155 := f142.keep K148 (ninS (Ne.symm ne_b92_b110) nin0)
    have f156 := f143.keep K148 (ninS (Ne.symm ne_b92_b123) nin0)
    have f157 := Vb135.keep K148 (ninS (Ne.symm ne_b92_b135) nin0)
    have Z158 : n0 ≤ T148.heap.size := Nat.le_trans Z144 K148.1
    have KP159 : Keep h0 T148.heap [] := KP145.trans K148 (allS (Or.inr sz_b92) all0)
    have K160 : ∀ t, Steps p.tables e below (T148.setTop (mkF m 321 #[.val (.int p1), .val (.int p2), .val (.int p3), .val (.int p4), .val (.int p5), .val (.int p6), .val (.ref b2), .val (.int cp), .val (.int nv), .val (.int ix), .val (.int (1 : Int32)), .val (.int ((p6.toUInt32 >>> ((1 : Int32) &&& 31).toUInt32).toInt32)), .val (.int y1), .val (.int y2), .val (.int y3), .val (.int y4), .val (.int av), .val (.int t9), .val (.int ex), .val (.int t9), .val (.ref b92)] [])) t → Steps p.tables e below G t := fun t k => K147 t (st148.trans k)
    obtain ⟨y0c, y1c, y2c, y3c⟩ := ct135
    have hf2 : ∀ j : Nat, j < 4 → vs135.getD j (Value.int (0 : Int32)) = .int ((fun j => ([ee0, ee1, ee2, ee3] : List Int32).getD j 0) j) := fun j hj => by
      match j, hj with
      | 0, _ => exact y0c
      | 1, _ => exact y1c
      | 2, _ => exact y2c
      | 3, _ => exact y3c
      | j + 4, h => exact absurd h (by omega)
    have hx0 : ¬ ix < 0 := by rw [Int32.lt_iff_toInt_lt]; have z0 : (0 : Int32).toInt = 0 := rfl; omega
    have hsel := own_sel (own_F (fun j => ([ee0, ee1, ee2, ee3] : List Int32).getD j 0) nv) h_y1 h_y2 h_y3 h_y4 hx0 hav ht h_ex
    have hrr : (∃ kk : Nat, t9.toInt = kk ∧ ex = own_it (own_F (fun j => ([ee0, ee1, ee2, ee3] : List Int32).getD j 0) nv) kk ix ∧ ¬ ex < 0) ∨ (∃ kk : Nat, 0 < kk ∧ t9.toInt = -(kk : Int) ∧ ex = own_it (own_B (fun j => ([ee0, ee1, ee2, ee3] : List Int32).getD j 0)) kk ix ∧ ¬ ex < 0) := Or.inl hsel
    have K161 : ∀ t, Steps p.tables e below (T148.setTop (mkF m 327 #[.val (.int p1), .val (.int p2), .val (.int p3), .val (.int p4), .val (.int p5), .val (.int p6), .val (.ref b2), .val (.int cp), .val (.int nv), .val (.int ix), .val (.int (1 : Int32)), .val (.int ((p6.toUInt32 >>> ((1 : Int32) &&& 31).toUInt32).toInt32)), .val (.int y1), .val (.int y2), .val (.int y3), .val (.int y4), .val (.int av), .val (.int t9), .val (.int ex), .val (.int t9), .val (.ref b92)] [(.int t9), (.int ix), (.ref b92)])) t → Steps p.tables e below G t := by
      intro t k
      refine K160 t ?_
      refine XS.aload X148.here hx rfl (hb hby at_321) rfl rfl ?_
      refine XS.iload X148.here hx rfl (hb hby at_323) rfl ?_
      refine XS.iload X148.here hx rfl (hb hby at_325) rfl ?_
      exact k
    obtain ⟨cq162, kq162, q162a, q162b, q162c⟩ := isOf hZ rfl E148'
    obtain ⟨_, _, ⟨T162, L162, kk162, nn162⟩, -, X162, ⟨Lc162, hQ162, lq162, yq162, zq162⟩, st162⟩ := X148.virtualBack hx (y := (⟨"org/arborlog/pattern/LineText", "offsetByCodePoints", "(II)I"⟩ : MethodName)) (z := (⟨"org/arborlog/pattern/LineText", "offsetByCodePoints", "(II)I"⟩ : MethodName)) hown (mvT hZ (hw _ (List.mem_of_getElem? (i := 144) rfl))) (mvT hZ (hw _ (List.mem_of_getElem? (i := 145) rfl))) (notFace_of_selects (args := #[]) (mvT hZ (hw _ (List.mem_of_getElem? (i := 147) rfl)))) (mvT hZ (hw _ (List.mem_of_getElem? (i := 147) rfl))) (mvT hZ (hw _ (List.mem_of_getElem? (i := 146) rfl))) (by decide) (backOf (W := 0) (rm32 l Z a0 hw [] b92 ix t9 b135 nv kb135 zb135 vs135 (fun j => ([ee0, ee1, ee2, ee3] : List Int32).getD j 0) ex T148.heap n0 Z158 Fc148 Fl148 f157 hf2 hz135.1 hn4 hix hrr) hZ (hw _ (List.mem_of_getElem? (i := 148) rfl)) (hw _ (List.mem_of_getElem? (i := 13) rfl)) (by decide) (by decide)) q162a q162c (g := (mkF m 327 #[.val (.int p1), .val (.int p2), .val (.int p3), .val (.int p4), .val (.int p5), .val (.int p6), .val (.ref b2), .val (.int cp), .val (.int nv), .val (.int ix), .val (.int (1 : Int32)), .val (.int ((p6.toUInt32 >>> ((1 : Int32) &&& 31).toUInt32).toInt32)), .val (.int y1), .val (.int y2), .val (.int y3), .val (.int y4), .val (.int av), .val (.int t9), .val (.int ex), .val (.int t9), .val (.ref b92)] [(.int t9), (.int ix), (.ref b92)])) rfl (by rw [hml]; rfl) (Steps.refl _) (argsL := [(.int ix), (.int t9)]) (rest := []) (lenOf pd_0 rfl) rfl (by show 2 * 0 + _ ≤ _; exact Nat.le_of_eq rfl) (hb hby at_327) (fun _ _ => ⟨rfl, rfl, (by decide : 7 + 0 ≤ _), (by decide : 40 + 0 ≤ _)⟩)
    dsimp only [Pt.U, Pt.locs, Pt.cells, Pt.slots] at X162 lq162 yq162 zq162 st162 hQ162
    subst lq162 yq162 zq162
    obtain ⟨rfl, Nq162, e162⟩ := hQ162
    have N163 := Fr.app N149 Nq162
    have K164 : ∀ t, Steps p.tables e below (T162.setTop (mkF m 330 #[.val (.int p1), .val (.int p2), .val (.int p3), .val (.int p4), .val (.int p5), .val (.int p6), .val (.ref b2), .val (.int cp), .val (.int nv), .val (.int ix), .val (.int (1 : Int32)), .val (.int ((p6.toUInt32 >>> ((1 : Int32) &&& 31).toUInt32).toInt32)), .val (.int y1), .val (.int y2), .val (.int y3), .val (.int y4), .val (.int av), .val (.int t9), .val (.int ex), .val (.int t9), .val (.ref b92)] [(.int ex)])) t → Steps p.tables e below G t := fun t k => K161 t (st162.trans k)
    obtain ⟨fs, hr, hrun, hended, hW, hsame⟩ := X162.leave (v := some (.int (1 : Int32))) (fun h => by rw [Bd.returns] at h; cases h)
    have KF := K164
    rw [hG] at KF
    refine ⟨_, _, KF _ ?_, hrun, hended, _, _, rfl, ?_, ⟨_, rfl⟩, hW, hsame.mono (by decide) (by decide)⟩
    · refine XS.iload X162.here hx rfl (hb hby at_330) rfl ?_
      refine XS.icmpNo X162.here hx rfl (hb hby at_332) rfl (teq (rfl : ex = ex)).2 ?_
      refine XS.iconst X162.here hx rfl (hb hby at_335) ?_
      refine XS.goto X162.here hx rfl (pc0 := 336) (pc' := 340) rfl (hb hby at_336) (by decide) (by decide) ?_
      show Steps p.tables e below (T162.setTop (mkF m 340 #[.val (.int p1), .val (.int p2), .val (.int p3), .val (.int p4), .val (.int p5), .val (.int p6), .val (.ref b2), .val (.int cp), .val (.int nv), .val (.int ix), .val (.int (1 : Int32)), .val (.int ((p6.toUInt32 >>> ((1 : Int32) &&& 31).toUInt32).toInt32)), .val (.int y1), .val (.int y2), .val (.int y3), .val (.int y4), .val (.int av), .val (.int t9), .val (.int ex), .val (.int t9), .val (.ref b92)] [(.int (1 : Int32))])) _
      exact retN X162 hx (t := .boolean) Bd.returns (by simp) (hb hby at_340) hr
    · show Q0 n0 _ T162.heap _
      rw [e162]
      exact ⟨rfl, N163⟩
  · have K165 : ∀ t, Steps p.tables e below (T41.setTop (mkF m 146 #[.val (.int p1), .val (.int p2), .val (.int p3), .val (.int p4), .val (.int p5), .val (.int p6), .val (.ref b2), .val (.int cp), .val (.int nv), .val (.int ix), .val (.int (0 : Int32)), .val (.int ((p6.toUInt32 >>> ((1 : Int32) &&& 31).toUInt32).toInt32)), .unset, .unset, .unset, .unset, .unset, .unset, .unset, .unset, .unset] [(.int ix), (.ref b2)])) t → Steps p.tables e below G t := by
      intro t k
      refine K53 t ?_
      refine XS.ifYes X41.here hx rfl (pc0 := 74) (pc' := 81) rfl (hb hby at_74) rfl ((if0 _ _).trans (feq hc54).2) (by decide) (by decide) ?_
      refine XS.iconst X41.here hx rfl (hb hby at_81) ?_
      refine XS.istore X41.here hx rfl (hb hby at_82) rfl (l' := #[.val (.int p1), .val (.int p2), .val (.int p3), .val (.int p4), .val (.int p5), .val (.int p6), .val (.ref b2), .val (.int cp), .val (.int nv), .val (.int ix), .val (.int (0 : Int32)), .unset, .unset, .unset, .unset, .unset, .unset, .unset, .unset, .unset, .unset]) rfl ?_
      refine XS.iload X41.here hx rfl (hb hby at_84) rfl ?_
      refine XS.iconst X41.here hx rfl (hb hby at_86) ?_
      refine XS.iushr X41.here hx rfl (hb hby at_87) rfl ?_
      refine XS.istore X41.here hx rfl (hb hby at_88) rfl (l' := #[.val (.int p1), .val (.int p2), .val (.int p3), .val (.int p4), .val (.int p5), .val (.int p6), .val (.ref b2), .val (.int cp), .val (.int nv), .val (.int ix), .val (.int (0 : Int32)), .val (.int ((p6.toUInt32 >>> ((1 : Int32) &&& 31).toUInt32).toInt32)), .unset, .unset, .unset, .unset, .unset, .unset, .unset, .unset, .unset]) rfl ?_
      refine XS.iload X41.here hx rfl (hb hby at_90) rfl ?_
      refine XS.ifYes X41.here hx rfl (pc0 := 92) (pc' := 142) rfl (hb hby at_92) rfl ((if0 _ _).trans (teq (by decide)).1) (by decide) (by decide) ?_
      refine XS.aload X41.here hx rfl (hb hby at_142) rfl rfl ?_
      refine XS.iload X41.here hx rfl (hb hby at_144) rfl ?_
      exact k
    obtain ⟨_, _, ⟨T166, L166, kk166, nn166⟩, -, X166, ⟨Lc166, hQ166, lq166, yq166, zq166⟩, st166⟩ := Jvm.LawKit.callS X41 hx (y := (⟨"org/arborlog/pattern/LineTextOffsetByCodePointsPinLaw", "back", "([CI)I"⟩ : MethodName)) hown (mvT hZ (hw _ (List.mem_of_getElem? (i := 8) rfl))) (mvT hZ (hw _ (List.mem_of_getElem? (i := 9) rfl))) (mvT hZ (hw _ (List.mem_of_getElem? (i := 3) rfl))) (mvT hZ (hw _ (List.mem_of_getElem? (i := 10) rfl))) (by decide) (backOf (W := 0) (rm2 l Z a0 hw [] b2 ix kn2 (4 : Int32) [(.int ee0), (.int ee1), (.int ee2), (.int ee3)] (fun j => ([ee0, ee1, ee2, ee3] : List Int32).getD j 0) h41 n0 Z44 VE hfc (by decide) (by omega)) hZ (hw _ (List.mem_of_getElem? (i := 10) rfl)) (hw _ (List.mem_of_getElem? (i := 3) rfl)) (by decide) (by decide)) (g := (mkF m 146 #[.val (.int p1), .val (.int p2), .val (.int p3), .val (.int p4), .val (.int p5), .val (.int p6), .val (.ref b2), .val (.int cp), .val (.int nv), .val (.int ix), .val (.int (0 : Int32)), .val (.int ((p6.toUInt32 >>> ((1 : Int32) &&& 31).toUInt32).toInt32)), .unset, .unset, .unset, .unset, .unset, .unset, .unset, .unset, .unset] [(.int ix), (.ref b2)])) rfl (by rw [hml]; rfl) (argsL := [(.ref b2), (.int ix)]) (rest := []) (lenOf pd_28 rfl) rfl (by show 2 * 0 + _ ≤ _; exact Nat.le_of_eq rfl) (hb hby at_146) (fun _ _ => ⟨rfl, e41, (by decide : 1 + 0 ≤ _), (by decide : 4 + 0 ≤ _)⟩)
    dsimp only [Pt.U, Pt.locs, Pt.cells, Pt.slots] at X166 lq166 yq166 zq166 st166 hQ166
    subst lq166 yq166 zq166
    obtain ⟨rfl, Nq166, e166⟩ := hQ166
    have N167 := Fr.app N46 Nq166
    have K168 : ∀ t, Steps p.tables e below (T166.setTop (mkF m 149 #[.val (.int p1), .val (.int p2), .val (.int p3), .val (.int p4), .val (.int p5), .val (.int p6), .val (.ref b2), .val (.int cp), .val (.int nv), .val (.int ix), .val (.int (0 : Int32)), .val (.int ((p6.toUInt32 >>> ((1 : Int32) &&& 31).toUInt32).toInt32)), .unset, .unset, .unset, .unset, .unset, .unset, .unset, .unset, .unset] [(.int (own_B (fun j => ([ee0, ee1, ee2, ee3] : List Int32).getD j 0) ix))])) t → Steps p.tables e below G t := fun t k => K165 t (st166 _ k)
    obtain ⟨y1, h_y1⟩ : ∃ z_ : Int32, z_ = (own_B (fun j => ([ee0, ee1, ee2, ee3] : List Int32).getD j 0) ix) := ⟨_, rfl⟩
    have K169 : ∀ t, Steps p.tables e below (T166.setTop (mkF m 149 #[.val (.int p1), .val (.int p2), .val (.int p3), .val (.int p4), .val (.int p5), .val (.int p6), .val (.ref b2), .val (.int cp), .val (.int nv), .val (.int ix), .val (.int (0 : Int32)), .val (.int ((p6.toUInt32 >>> ((1 : Int32) &&& 31).toUInt32).toInt32)), .unset, .unset, .unset, .unset, .unset, .unset, .unset, .unset, .unset] [(.int y1)])) t → Steps p.tables e below G t := by rw [h_y1]; exact K168
    have hb1 : y1.toInt ≤ 4 := by rw [h_y1]; exact own_bl (by omega)
    have K170 : ∀ t, Steps p.tables e below (T166.setTop (mkF m 155 #[.val (.int p1), .val (.int p2), .val (.int p3), .val (.int p4), .val (.int p5), .val (.int p6), .val (.ref b2), .val (.int cp), .val (.int nv), .val (.int ix), .val (.int (0 : Int32)), .val (.int ((p6.toUInt32 >>> ((1 : Int32) &&& 31).toUInt32).toInt32)), .val (.int y1), .unset, .unset, .unset, .unset, .unset, .unset, .unset, .unset] [(.int y1), (.ref b2)])) t → Steps p.tables e below G t := by
      intro t k
      refine K169 t ?_
      refine XS.istore X166.here hx rfl (hb hby at_149) rfl (l' := #[.val (.int p1), .val (.int p2), .val (.int p3), .val (.int p4), .val (.int p5), .val (.int p6), .val (.ref b2), .val (.int cp), .val (.int nv), .val (.int ix), .val (.int (0 : Int32)), .val (.int ((p6.toUInt32 >>> ((1 : Int32) &&& 31).toUInt32).toInt32)), .val (.int y1), .unset, .unset, .unset, .unset, .unset, .unset, .unset, .unset]) rfl ?_
      refine XS.aload X166.here hx rfl (hb hby at_151) rfl rfl ?_
      refine XS.iload X166.here hx rfl (hb hby at_153) rfl ?_
      exact k
    obtain ⟨_, _, ⟨T171, L171, kk171, nn171⟩, -, X171, ⟨Lc171, hQ171, lq171, yq171, zq171⟩, st171⟩ := Jvm.LawKit.callS X166 hx (y := (⟨"org/arborlog/pattern/LineTextOffsetByCodePointsPinLaw", "back", "([CI)I"⟩ : MethodName)) hown (mvT hZ (hw _ (List.mem_of_getElem? (i := 8) rfl))) (mvT hZ (hw _ (List.mem_of_getElem? (i := 9) rfl))) (mvT hZ (hw _ (List.mem_of_getElem? (i := 3) rfl))) (mvT hZ (hw _ (List.mem_of_getElem? (i := 10) rfl))) (by decide) (backOf (W := 0) (rm2 l Z a0 hw [] b2 y1 kn2 (4 : Int32) [(.int ee0), (.int ee1), (.int ee2), (.int ee3)] (fun j => ([ee0, ee1, ee2, ee3] : List Int32).getD j 0) h41 n0 Z44 VE hfc (by decide) (by omega)) hZ (hw _ (List.mem_of_getElem? (i := 10) rfl)) (hw _ (List.mem_of_getElem? (i := 3) rfl)) (by decide) (by decide)) (g := (mkF m 155 #[.val (.int p1), .val (.int p2), .val (.int p3), .val (.int p4), .val (.int p5), .val (.int p6), .val (.ref b2), .val (.int cp), .val (.int nv), .val (.int ix), .val (.int (0 : Int32)), .val (.int ((p6.toUInt32 >>> ((1 : Int32) &&& 31).toUInt32).toInt32)), .val (.int y1), .unset, .unset, .unset, .unset, .unset, .unset, .unset, .unset] [(.int y1), (.ref b2)])) rfl (by rw [hml]; rfl) (argsL := [(.ref b2), (.int y1)]) (rest := []) (lenOf pd_28 rfl) rfl (by show 2 * 0 + _ ≤ _; exact Nat.le_of_eq rfl) (hb hby at_155) (fun _ _ => ⟨rfl, e166, (by decide : 1 + 0 ≤ _), (by decide : 4 + 0 ≤ _)⟩)
    dsimp only [Pt.U, Pt.locs, Pt.cells, Pt.slots] at X171 lq171 yq171 zq171 st171 hQ171
    subst lq171 yq171 zq171
    obtain ⟨rfl, Nq171, e171⟩ := hQ171
    have N172 := Fr.app N167 Nq171
    have K173 : ∀ t, Steps p.tables e below (T171.setTop (mkF m 158 #[.val (.int p1), .val (.int p2), .val (.int p3), .val (.int p4), .val (.int p5), .val (.int p6), .val (.ref b2), .val (.int cp), .val (.int nv), .val (.int ix), .val (.int (0 : Int32)), .val (.int ((p6.toUInt32 >>> ((1 : Int32) &&& 31).toUInt32).toInt32)), .val (.int y1), .unset, .unset, .unset, .unset, .unset, .unset, .unset, .unset] [(.int (own_B (fun j => ([ee0, ee1, ee2, ee3] : List Int32).getD j 0) y1))])) t → Steps p.tables e below G t := fun t k => K170 t (st171 _ k)
    obtain ⟨y2, h_y2⟩ : ∃ z_ : Int32, z_ = (own_B (fun j => ([ee0, ee1, ee2, ee3] : List Int32).getD j 0) y1) := ⟨_, rfl⟩
    have K174 : ∀ t, Steps p.tables e below (T171.setTop (mkF m 158 #[.val (.int p1), .val (.int p2), .val (.int p3), .val (.int p4), .val (.int p5), .val (.int p6), .val (.ref b2), .val (.int cp), .val (.int nv), .val (.int ix), .val (.int (0 : Int32)), .val (.int ((p6.toUInt32 >>> ((1 : Int32) &&& 31).toUInt32).toInt32)), .val (.int y1), .unset, .unset, .unset, .unset, .unset, .unset, .unset, .unset] [(.int y2)])) t → Steps p.tables e below G t := by rw [h_y2]; exact K173
    have hb2 : y2.toInt ≤ 4 := by rw [h_y2]; exact own_bl hb1
    have K175 : ∀ t, Steps p.tables e below (T171.setTop (mkF m 164 #[.val (.int p1), .val (.int p2), .val (.int p3), .val (.int p4), .val (.int p5), .val (.int p6), .val (.ref b2), .val (.int cp), .val (.int nv), .val (.int ix), .val (.int (0 : Int32)), .val (.int ((p6.toUInt32 >>> ((1 : Int32) &&& 31).toUInt32).toInt32)), .val (.int y1), .val (.int y2), .unset, .unset, .unset, .unset, .unset, .unset, .unset] [(.int y2), (.ref b2)])) t → Steps p.tables e below G t := by
      intro t k
      refine K174 t ?_
      refine XS.istore X171.here hx rfl (hb hby at_158) rfl (l' := #[.val (.int p1), .val (.int p2), .val (.int p3), .val (.int p4), .val (.int p5), .val (.int p6), .val (.ref b2), .val (.int cp), .val (.int nv), .val (.int ix), .val (.int (0 : Int32)), .val (.int ((p6.toUInt32 >>> ((1 : Int32) &&& 31).toUInt32).toInt32)), .val (.int y1), .val (.int y2), .unset, .unset, .unset, .unset, .unset, .unset, .unset]) rfl ?_
      refine XS.aload X171.here hx rfl (hb hby at_160) rfl rfl ?_
      refine XS.iload X171.here hx rfl (hb hby at_162) rfl ?_
      exact k
    obtain ⟨_, _, ⟨T176, L176, kk176, nn176⟩, -, X176, ⟨Lc176, hQ176, lq176, yq176, zq176⟩, st176⟩ := Jvm.LawKit.callS X171 hx (y := (⟨"org/arborlog/pattern/LineTextOffsetByCodePointsPinLaw", "back", "([CI)I"⟩ : MethodName)) hown (mvT hZ (hw _ (List.mem_of_getElem? (i := 8) rfl))) (mvT hZ (hw _ (List.mem_of_getElem? (i := 9) rfl))) (mvT hZ (hw _ (List.mem_of_getElem? (i := 3) rfl))) (mvT hZ (hw _ (List.mem_of_getElem? (i := 10) rfl))) (by decide) (backOf (W := 0) (rm2 l Z a0 hw [] b2 y2 kn2 (4 : Int32) [(.int ee0), (.int ee1), (.int ee2), (.int ee3)] (fun j => ([ee0, ee1, ee2, ee3] : List Int32).getD j 0) h41 n0 Z44 VE hfc (by decide) (by omega)) hZ (hw _ (List.mem_of_getElem? (i := 10) rfl)) (hw _ (List.mem_of_getElem? (i := 3) rfl)) (by decide) (by decide)) (g := (mkF m 164 #[.val (.int p1), .val (.int p2), .val (.int p3), .val (.int p4), .val (.int p5), .val (.int p6), .val (.ref b2), .val (.int cp), .val (.int nv), .val (.int ix), .val (.int (0 : Int32)), .val (.int ((p6.toUInt32 >>> ((1 : Int32) &&& 31).toUInt32).toInt32)), .val (.int y1), .val (.int y2), .unset, .unset, .unset, .unset, .unset, .unset, .unset] [(.int y2), (.ref b2)])) rfl (by rw [hml]; rfl) (argsL := [(.ref b2), (.int y2)]) (rest := []) (lenOf pd_28 rfl) rfl (by show 2 * 0 + _ ≤ _; exact Nat.le_of_eq rfl) (hb hby at_164) (fun _ _ => ⟨rfl, e171, (by decide : 1 + 0 ≤ _), (by decide : 4 + 0 ≤ _)⟩)
    dsimp only [Pt.U, Pt.locs, Pt.cells, Pt.slots] at X176 lq176 yq176 zq176 st176 hQ176
    subst lq176 yq176 zq176
    obtain ⟨rfl, Nq176, e176⟩ := hQ176
    have N177 := Fr.app N172 Nq176
    have K178 : ∀ t, Steps p.tables e below (T176.setTop (mkF m 167 #[.val (.int p1), .val (.int p2), .val (.int p3), .val (.int p4), .val (.int p5), .val (.int p6), .val (.ref b2), .val (.int cp), .val (.int nv), .val (.int ix), .val (.int (0 : Int32)), .val (.int ((p6.toUInt32 >>> ((1 : Int32) &&& 31).toUInt32).toInt32)), .val (.int y1), .val (.int y2), .unset, .unset, .unset, .unset, .unset, .unset, .unset] [(.int (own_B (fun j => ([ee0, ee1, ee2, ee3] : List Int32).getD j 0) y2))])) t → Steps p.tables e below G t := fun t k => K175 t (st176 _ k)
    obtain ⟨y3, h_y3⟩ : ∃ z_ : Int32, z_ = (own_B (fun j => ([ee0, ee1, ee2, ee3] : List Int32).getD j 0) y2) := ⟨_, rfl⟩
    have K179 : ∀ t, Steps p.tables e below (T176.setTop (mkF m 167 #[.val (.int p1), .val (.int p2), .val (.int p3), .val (.int p4), .val (.int p5), .val (.int p6), .val (.ref b2), .val (.int cp), .val (.int nv), .val (.int ix), .val (.int (0 : Int32)), .val (.int ((p6.toUInt32 >>> ((1 : Int32) &&& 31).toUInt32).toInt32)), .val (.int y1), .val (.int y2), .unset, .unset, .unset, .unset, .unset, .unset, .unset] [(.int y3)])) t → Steps p.tables e below G t := by rw [h_y3]; exact K178
    have hb3 : y3.toInt ≤ 4 := by rw [h_y3]; exact own_bl hb2
    have K180 : ∀ t, Steps p.tables e below (T176.setTop (mkF m 173 #[.val (.int p1), .val (.int p2), .val (.int p3), .val (.int p4), .val (.int p5), .val (.int p6), .val (.ref b2), .val (.int cp), .val (.int nv), .val (.int ix), .val (.int (0 : Int32)), .val (.int ((p6.toUInt32 >>> ((1 : Int32) &&& 31).toUInt32).toInt32)), .val (.int y1), .val (.int y2), .val (.int y3), .unset, .unset, .unset, .unset, .unset, .unset] [(.int y3), (.ref b2)])) t → Steps p.tables e below G t := by
      intro t k
      refine K179 t ?_
      refine XS.istore X176.here hx rfl (hb hby at_167) rfl (l' := #[.val (.int p1), .val (.int p2), .val (.int p3), .val (.int p4), .val (.int p5), .val (.int p6), .val (.ref b2), .val (.int cp), .val (.int nv), .val (.int ix), .val (.int (0 : Int32)), .val (.int ((p6.toUInt32 >>> ((1 : Int32) &&& 31).toUInt32).toInt32)), .val (.int y1), .val (.int y2), .val (.int y3), .unset, .unset, .unset, .unset, .unset, .unset]) rfl ?_
      refine XS.aload X176.here hx rfl (hb hby at_169) rfl rfl ?_
      refine XS.iload X176.here hx rfl (hb hby at_171) rfl ?_
      exact k
    obtain ⟨_, _, ⟨T181, L181, kk181, nn181⟩, -, X181, ⟨Lc181, hQ181, lq181, yq181, zq181⟩, st181⟩ := Jvm.LawKit.callS X176 hx (y := (⟨"org/arborlog/pattern/LineTextOffsetByCodePointsPinLaw", "back", "([CI)I"⟩ : MethodName)) hown (mvT hZ (hw _ (List.mem_of_getElem? (i := 8) rfl))) (mvT hZ (hw _ (List.mem_of_getElem? (i := 9) rfl))) (mvT hZ (hw _ (List.mem_of_getElem? (i := 3) rfl))) (mvT hZ (hw _ (List.mem_of_getElem? (i := 10) rfl))) (by decide) (backOf (W := 0) (rm2 l Z a0 hw [] b2 y3 kn2 (4 : Int32) [(.int ee0), (.int ee1), (.int ee2), (.int ee3)] (fun j => ([ee0, ee1, ee2, ee3] : List Int32).getD j 0) h41 n0 Z44 VE hfc (by decide) (by omega)) hZ (hw _ (List.mem_of_getElem? (i := 10) rfl)) (hw _ (List.mem_of_getElem? (i := 3) rfl)) (by decide) (by decide)) (g := (mkF m 173 #[.val (.int p1), .val (.int p2), .val (.int p3), .val (.int p4), .val (.int p5), .val (.int p6), .val (.ref b2), .val (.int cp), .val (.int nv), .val (.int ix), .val (.int (0 : Int32)), .val (.int ((p6.toUInt32 >>> ((1 : Int32) &&& 31).toUInt32).toInt32)), .val (.int y1), .val (.int y2), .val (.int y3), .unset, .unset, .unset, .unset, .unset, .unset] [(.int y3), (.ref b2)])) rfl (by rw [hml]; rfl) (argsL := [(.ref b2), (.int y3)]) (rest := []) (lenOf pd_28 rfl) rfl (by show 2 * 0 + _ ≤ _; exact Nat.le_of_eq rfl) (hb hby at_173) (fun _ _ => ⟨rfl, e176, (by decide : 1 + 0 ≤ _), (by decide : 4 + 0 ≤ _)⟩)
    dsimp only [Pt.U, Pt.locs, Pt.cells, Pt.slots] at X181 lq181 yq181 zq181 st181 hQ181
    subst lq181 yq181 zq181
    obtain ⟨rfl, Nq181, e181⟩ := hQ181
    have N182 := Fr.app N177 Nq181
    have K183 : ∀ t, Steps p.tables e below (T181.setTop (mkF m 176 #[.val (.int p1), .val (.int p2), .val (.int p3), .val (.int p4), .val (.int p5), .val (.int p6), .val (.ref b2), .val (.int cp), .val (.int nv), .val (.int ix), .val (.int (0 : Int32)), .val (.int ((p6.toUInt32 >>> ((1 : Int32) &&& 31).toUInt32).toInt32)), .val (.int y1), .val (.int y2), .val (.int y3), .unset, .unset, .unset, .unset, .unset, .unset] [(.int (own_B (fun j => ([ee0, ee1, ee2, ee3] : List Int32).getD j 0) y3))])) t → Steps p.tables e below G t := fun t k => K180 t (st181 _ k)
    obtain ⟨y4, h_y4⟩ : ∃ z_ : Int32, z_ = (own_B (fun j => ([ee0, ee1, ee2, ee3] : List Int32).getD j 0) y3) := ⟨_, rfl⟩
    have K184 : ∀ t, Steps p.tables e below (T181.setTop (mkF m 176 #[.val (.int p1), .val (.int p2), .val (.int p3), .val (.int p4), .val (.int p5), .val (.int p6), .val (.ref b2), .val (.int cp), .val (.int nv), .val (.int ix), .val (.int (0 : Int32)), .val (.int ((p6.toUInt32 >>> ((1 : Int32) &&& 31).toUInt32).toInt32)), .val (.int y1), .val (.int y2), .val (.int y3), .unset, .unset, .unset, .unset, .unset, .unset] [(.int y4)])) t → Steps p.tables e below G t := by rw [h_y4]; exact K183
    have K185 : ∀ t, Steps p.tables e below (T181.setTop (mkF m 180 #[.val (.int p1), .val (.int p2), .val (.int p3), .val (.int p4), .val (.int p5), .val (.int p6), .val (.ref b2), .val (.int cp), .val (.int nv), .val (.int ix), .val (.int (0 : Int32)), .val (.int ((p6.toUInt32 >>> ((1 : Int32) &&& 31).toUInt32).toInt32)), .val (.int y1), .val (.int y2), .val (.int y3), .val (.int y4), .unset, .unset, .unset, .unset, .unset] [(.int y1)])) t → Steps p.tables e below G t := by
      intro t k
      refine K184 t ?_
      refine XS.istore X181.here hx rfl (hb hby at_176) rfl (l' := #[.val (.int p1), .val (.int p2), .val (.int p3), .val (.int p4), .val (.int p5), .val (.int p6), .val (.ref b2), .val (.int cp), .val (.int nv), .val (.int ix), .val (.int (0 : Int32)), .val (.int ((p6.toUInt32 >>> ((1 : Int32) &&& 31).toUInt32).toInt32)), .val (.int y1), .val (.int y2), .val (.int y3), .val (.int y4), .unset, .unset, .unset, .unset, .unset]) rfl ?_
      refine XS.iload X181.here hx rfl (hb hby at_178) rfl ?_
      exact k
    have K190 : ∀ t, Steps p.tables e below (T181.setTop (mkF m 215 #[.val (.int p1), .val (.int p2), .val (.int p3), .val (.int p4), .val (.int p5), .val (.int p6), .val (.ref b2), .val (.int cp), .val (.int nv), .val (.int ix), .val (.int (0 : Int32)), .val (.int ((p6.toUInt32 >>> ((1 : Int32) &&& 31).toUInt32).toInt32)), .val (.int y1), .val (.int y2), .val (.int y3), .val (.int y4), .unset, .unset, .unset, .unset, .unset] [(.int (if y1 < (0 : Int32) then (0 : Int32) else (if y2 < (0 : Int32) then (1 : Int32) else (if y3 < (0 : Int32) then (2 : Int32) else (if y4 < (0 : Int32) then (3 : Int32) else (4 : Int32))))))])) t → Steps p.tables e below G t := by
      intro t k
      refine K185 t ?_
      by_cases hc186 : y1 < (0 : Int32)
      · show Steps p.tables e below (T181.setTop (mkF m 180 #[.val (.int p1), .val (.int p2), .val (.int p3), .val (.int p4), .val (.int p5), .val (.int p6), .val (.ref b2), .val (.int cp), .val (.int nv), .val (.int ix), .val (.int (0 : Int32)), .val (.int ((p6.toUInt32 >>> ((1 : Int32) &&& 31).toUInt32).toInt32)), .val (.int y1), .val (.int y2), .val (.int y3), .val (.int y4), .unset, .unset, .unset, .unset, .unset] [(.int y1)])) _
        refine XS.ifNo X181.here hx rfl (hb hby at_180) rfl ((if0 _ _).trans (tlt hc186).2.1) ?_
        show Steps p.tables e below (T181.setTop (mkF m 183 #[.val (.int p1), .val (.int p2), .val (.int p3), .val (.int p4), .val (.int p5), .val (.int p6), .val (.ref b2), .val (.int cp), .val (.int nv), .val (.int ix), .val (.int (0 : Int32)), .val (.int ((p6.toUInt32 >>> ((1 : Int32) &&& 31).toUInt32).toInt32)), .val (.int y1), .val (.int y2), .val (.int y3), .val (.int y4), .unset, .unset, .unset, .unset, .unset] [])) _
        refine XS.iconst X181.here hx rfl (hb hby at_183) ?_
        show Steps p.tables e below (T181.setTop (mkF m 184 #[.val (.int p1), .val (.int p2), .val (.int p3), .val (.int p4), .val (.int p5), .val (.int p6), .val (.ref b2), .val (.int cp), .val (.int nv), .val (.int ix), .val (.int (0 : Int32)), .val (.int ((p6.toUInt32 >>> ((1 : Int32) &&& 31).toUInt32).toInt32)), .val (.int y1), .val (.int y2), .val (.int y3), .val (.int y4), .unset, .unset, .unset, .unset, .unset] [(.int (0 : Int32))])) _
        refine XS.goto X181.here hx rfl (pc0 := 184) (pc' := 215) rfl (hb hby at_184) (by decide) (by decide) ?_
        show Steps p.tables e below (T181.setTop (mkF m 215 #[.val (.int p1), .val (.int p2), .val (.int p3), .val (.int p4), .val (.int p5), .val (.int p6), .val (.ref b2), .val (.int cp), .val (.int nv), .val (.int ix), .val (.int (0 : Int32)), .val (.int ((p6.toUInt32 >>> ((1 : Int32) &&& 31).toUInt32).toInt32)), .val (.int y1), .val (.int y2), .val (.int y3), .val (.int y4), .unset, .unset, .unset, .unset, .unset] [(.int (0 : Int32))])) _
        simp only [if_pos hc186] at k
        exact k
      · show Steps p.tables e below (T181.setTop (mkF m 180 #[.val (.int p1), .val (.int p2), .val (.int p3), .val (.int p4), .val (.int p5), .val (.int p6), .val (.ref b2), .val (.int cp), .val (.int nv), .val (.int ix), .val (.int (0 : Int32)), .val (.int ((p6.toUInt32 >>> ((1 : Int32) &&& 31).toUInt32).toInt32)), .val (.int y1), .val (.int y2), .val (.int y3), .val (.int y4), .unset, .unset, .unset, .unset, .unset] [(.int y1)])) _
        refine XS.ifYes X181.here hx rfl (pc0 := 180) (pc' := 187) rfl (hb hby at_180) rfl ((if0 _ _).trans (flt hc186).2.1) (by decide) (by decide) ?_
        show Steps p.tables e below (T181.setTop (mkF m 187 #[.val (.int p1), .val (.int p2), .val (.int p3), .val (.int p4), .val (.int p5), .val (.int p6), .val (.ref b2), .val (.int cp), .val (.int nv), .val (.int ix), .val (.int (0 : Int32)), .val (.int ((p6.toUInt32 >>> ((1 : Int32) &&& 31).toUInt32).toInt32)), .val (.int y1), .val (.int y2), .val (.int y3), .val (.int y4), .unset, .unset, .unset, .unset, .unset] [])) _
        refine XS.iload X181.here hx rfl (hb hby at_187) rfl ?_
        by_cases hc187 : y2 < (0 : Int32)
        · show Steps p.tables e below (T181.setTop (mkF m 189 #[.val (.int p1), .val (.int p2), .val (.int p3), .val (.int p4), .val (.int p5), .val (.int p6), .val (.ref b2), .val (.int cp), .val (.int nv), .val (.int ix), .val (.int (0 : Int32)), .val (.int ((p6.toUInt32 >>> ((1 : Int32) &&& 31).toUInt32).toInt32)), .val (.int y1), .val (.int y2), .val (.int y3), .val (.int y4), .unset, .unset, .unset, .unset, .unset] [(.int y2)])) _
          refine XS.ifNo X181.here hx rfl (hb hby at_189) rfl ((if0 _ _).trans (tlt hc187).2.1) ?_
          show Steps p.tables e below (T181.setTop (mkF m 192 #[.val (.int p1), .val (.int p2), .val (.int p3), .val (.int p4), .val (.int p5), .val (.int p6), .val (.ref b2), .val (.int cp), .val (.int nv), .val (.int ix), .val (.int (0 : Int32)), .val (.int ((p6.toUInt32 >>> ((1 : Int32) &&& 31).toUInt32).toInt32)), .val (.int y1), .val (.int y2), .val (.int y3), .val (.int y4), .unset, .unset, .unset, .unset, .unset] [])) _
          refine XS.iconst X181.here hx rfl (hb hby at_192) ?_
          show Steps p.tables e below (T181.setTop (mkF m 193 #[.val (.int p1), .val (.int p2), .val (.int p3), .val (.int p4), .val (.int p5), .val (.int p6), .val (.ref b2), .val (.int cp), .val (.int nv), .val (.int ix), .val (.int (0 : Int32)), .val (.int ((p6.toUInt32 >>> ((1 : Int32) &&& 31).toUInt32).toInt32)), .val (.int y1), .val (.int y2), .val (.int y3), .val (.int y4), .unset, .unset, .unset, .unset, .unset] [(.int (1 : Int32))])) _
          refine XS.goto X181.here hx rfl (pc0 := 193) (pc' := 215) rfl (hb hby at_193) (by decide) (by decide) ?_
          show Steps p.tables e below (T181.setTop (mkF m 215 #[.val (.int p1), .val (.int p2), .val (.int p3), .val (.int p4), .val (.int p5), .val (.int p6), .val (.ref b2), .val (.int cp), .val (.int nv), .val (.int ix), .val (.int (0 : Int32)), .val (.int ((p6.toUInt32 >>> ((1 : Int32) &&& 31).toUInt32).toInt32)), .val (.int y1), .val (.int y2), .val (.int y3), .val (.int y4), .unset, .unset, .unset, .unset, .unset] [(.int (1 : Int32))])) _
          simp only [if_neg hc186, if_pos hc187] at k
          exact k
        · show Steps p.tables e below (T181.setTop (mkF m 189 #[.val (.int p1), .val (.int p2), .val (.int p3), .val (.int p4), .val (.int p5), .val (.int p6), .val (.ref b2), .val (.int cp), .val (.int nv), .val (.int ix), .val (.int (0 : Int32)), .val (.int ((p6.toUInt32 >>> ((1 : Int32) &&& 31).toUInt32).toInt32)), .val (.int y1), .val (.int y2), .val (.int y3), .val (.int y4), .unset, .unset, .unset, .unset, .unset] [(.int y2)])) _
          refine XS.ifYes X181.here hx rfl (pc0 := 189) (pc' := 196) rfl (hb hby at_189) rfl ((if0 _ _).trans (flt hc187).2.1) (by decide) (by decide) ?_
          show Steps p.tables e below (T181.setTop (mkF m 196 #[.val (.int p1), .val (.int p2), .val (.int p3), .val (.int p4), .val (.int p5), .val (.int p6), .val (.ref b2), .val (.int cp), .val (.int nv), .val (.int ix), .val (.int (0 : Int32)), .val (.int ((p6.toUInt32 >>> ((1 : Int32) &&& 31).toUInt32).toInt32)), .val (.int y1), .val (.int y2), .val (.int y3), .val (.int y4), .unset, .unset, .unset, .unset, .unset] [])) _
          refine XS.iload X181.here hx rfl (hb hby at_196) rfl ?_
          by_cases hc188 : y3 < (0 : Int32)
          · show Steps p.tables e below (T181.setTop (mkF m 198 #[.val (.int p1), .val (.int p2), .val (.int p3), .val (.int p4), .val (.int p5), .val (.int p6), .val (.ref b2), .val (.int cp), .val (.int nv), .val (.int ix), .val (.int (0 : Int32)), .val (.int ((p6.toUInt32 >>> ((1 : Int32) &&& 31).toUInt32).toInt32)), .val (.int y1), .val (.int y2), .val (.int y3), .val (.int y4), .unset, .unset, .unset, .unset, .unset] [(.int y3)])) _
            refine XS.ifNo X181.here hx rfl (hb hby at_198) rfl ((if0 _ _).trans (tlt hc188).2.1) ?_
            show Steps p.tables e below (T181.setTop (mkF m 201 #[.val (.int p1), .val (.int p2), .val (.int p3), .val (.int p4), .val (.int p5), .val (.int p6), .val (.ref b2), .val (.int cp), .val (.int nv), .val (.int ix), .val (.int (0 : Int32)), .val (.int ((p6.toUInt32 >>> ((1 : Int32) &&& 31).toUInt32).toInt32)), .val (.int y1), .val (.int y2), .val (.int y3), .val (.int y4), .unset, .unset, .unset, .unset, .unset] [])) _
            refine XS.iconst X181.here hx rfl (hb hby at_201) ?_
            show Steps p.tables e below (T181.setTop (mkF m 202 #[.val (.int p1), .val (.int p2), .val (.int p3), .val (.int p4), .val (.int p5), .val (.int p6), .val (.ref b2), .val (.int cp), .val (.int nv), .val (.int ix), .val (.int (0 : Int32)), .val (.int ((p6.toUInt32 >>> ((1 : Int32) &&& 31).toUInt32).toInt32)), .val (.int y1), .val (.int y2), .val (.int y3), .val (.int y4), .unset, .unset, .unset, .unset, .unset] [(.int (2 : Int32))])) _
            refine XS.goto X181.here hx rfl (pc0 := 202) (pc' := 215) rfl (hb hby at_202) (by decide) (by decide) ?_
            show Steps p.tables e below (T181.setTop (mkF m 215 #[.val (.int p1), .val (.int p2), .val (.int p3), .val (.int p4), .val (.int p5), .val (.int p6), .val (.ref b2), .val (.int cp), .val (.int nv), .val (.int ix), .val (.int (0 : Int32)), .val (.int ((p6.toUInt32 >>> ((1 : Int32) &&& 31).toUInt32).toInt32)), .val (.int y1), .val (.int y2), .val (.int y3), .val (.int y4), .unset, .unset, .unset, .unset, .unset] [(.int (2 : Int32))])) _
            simp only [if_neg hc186, if_neg hc187, if_pos hc188] at k
            exact k
          · show Steps p.tables e below (T181.setTop (mkF m 198 #[.val (.int p1), .val (.int p2), .val (.int p3), .val (.int p4), .val (.int p5), .val (.int p6), .val (.ref b2), .val (.int cp), .val (.int nv), .val (.int ix), .val (.int (0 : Int32)), .val (.int ((p6.toUInt32 >>> ((1 : Int32) &&& 31).toUInt32).toInt32)), .val (.int y1), .val (.int y2), .val (.int y3), .val (.int y4), .unset, .unset, .unset, .unset, .unset] [(.int y3)])) _
            refine XS.ifYes X181.here hx rfl (pc0 := 198) (pc' := 205) rfl (hb hby at_198) rfl ((if0 _ _).trans (flt hc188).2.1) (by decide) (by decide) ?_
            show Steps p.tables e below (T181.setTop (mkF m 205 #[.val (.int p1), .val (.int p2), .val (.int p3), .val (.int p4), .val (.int p5), .val (.int p6), .val (.ref b2), .val (.int cp), .val (.int nv), .val (.int ix), .val (.int (0 : Int32)), .val (.int ((p6.toUInt32 >>> ((1 : Int32) &&& 31).toUInt32).toInt32)), .val (.int y1), .val (.int y2), .val (.int y3), .val (.int y4), .unset, .unset, .unset, .unset, .unset] [])) _
            refine XS.iload X181.here hx rfl (hb hby at_205) rfl ?_
            by_cases hc189 : y4 < (0 : Int32)
            · show Steps p.tables e below (T181.setTop (mkF m 207 #[.val (.int p1), .val (.int p2), .val (.int p3), .val (.int p4), .val (.int p5), .val (.int p6), .val (.ref b2), .val (.int cp), .val (.int nv), .val (.int ix), .val (.int (0 : Int32)), .val (.int ((p6.toUInt32 >>> ((1 : Int32) &&& 31).toUInt32).toInt32)), .val (.int y1), .val (.int y2), .val (.int y3), .val (.int y4), .unset, .unset, .unset, .unset, .unset] [(.int y4)])) _
              refine XS.ifNo X181.here hx rfl (hb hby at_207) rfl ((if0 _ _).trans (tlt hc189).2.1) ?_
              show Steps p.tables e below (T181.setTop (mkF m 210 #[.val (.int p1), .val (.int p2), .val (.int p3), .val (.int p4), .val (.int p5), .val (.int p6), .val (.ref b2), .val (.int cp), .val (.int nv), .val (.int ix), .val (.int (0 : Int32)), .val (.int ((p6.toUInt32 >>> ((1 : Int32) &&& 31).toUInt32).toInt32)), .val (.int y1), .val (.int y2), .val (.int y3), .val (.int y4), .unset, .unset, .unset, .unset, .unset] [])) _
              refine XS.iconst X181.here hx rfl (hb hby at_210) ?_
              show Steps p.tables e below (T181.setTop (mkF m 211 #[.val (.int p1), .val (.int p2), .val (.int p3), .val (.int p4), .val (.int p5), .val (.int p6), .val (.ref b2), .val (.int cp), .val (.int nv), .val (.int ix), .val (.int (0 : Int32)), .val (.int ((p6.toUInt32 >>> ((1 : Int32) &&& 31).toUInt32).toInt32)), .val (.int y1), .val (.int y2), .val (.int y3), .val (.int y4), .unset, .unset, .unset, .unset, .unset] [(.int (3 : Int32))])) _
              refine XS.goto X181.here hx rfl (pc0 := 211) (pc' := 215) rfl (hb hby at_211) (by decide) (by decide) ?_
              show Steps p.tables e below (T181.setTop (mkF m 215 #[.val (.int p1), .val (.int p2), .val (.int p3), .val (.int p4), .val (.int p5), .val (.int p6), .val (.ref b2), .val (.int cp), .val (.int nv), .val (.int ix), .val (.int (0 : Int32)), .val (.int ((p6.toUInt32 >>> ((1 : Int32) &&& 31).toUInt32).toInt32)), .val (.int y1), .val (.int y2), .val (.int y3), .val (.int y4), .unset, .unset, .unset, .unset, .unset] [(.int (3 : Int32))])) _
              simp only [if_neg hc186, if_neg hc187, if_neg hc188, if_pos hc189] at k
              exact k
            · show Steps p.tables e below (T181.setTop (mkF m 207 #[.val (.int p1), .val (.int p2), .val (.int p3), .val (.int p4), .val (.int p5), .val (.int p6), .val (.ref b2), .val (.int cp), .val (.int nv), .val (.int ix), .val (.int (0 : Int32)), .val (.int ((p6.toUInt32 >>> ((1 : Int32) &&& 31).toUInt32).toInt32)), .val (.int y1), .val (.int y2), .val (.int y3), .val (.int y4), .unset, .unset, .unset, .unset, .unset] [(.int y4)])) _
              refine XS.ifYes X181.here hx rfl (pc0 := 207) (pc' := 214) rfl (hb hby at_207) rfl ((if0 _ _).trans (flt hc189).2.1) (by decide) (by decide) ?_
              show Steps p.tables e below (T181.setTop (mkF m 214 #[.val (.int p1), .val (.int p2), .val (.int p3), .val (.int p4), .val (.int p5), .val (.int p6), .val (.ref b2), .val (.int cp), .val (.int nv), .val (.int ix), .val (.int (0 : Int32)), .val (.int ((p6.toUInt32 >>> ((1 : Int32) &&& 31).toUInt32).toInt32)), .val (.int y1), .val (.int y2), .val (.int y3), .val (.int y4), .unset, .unset, .unset, .unset, .unset] [])) _
              refine XS.iconst X181.here hx rfl (hb hby at_214) ?_
              show Steps p.tables e below (T181.setTop (mkF m 215 #[.val (.int p1), .val (.int p2), .val (.int p3), .val (.int p4), .val (.int p5), .val (.int p6), .val (.ref b2), .val (.int cp), .val (.int nv), .val (.int ix), .val (.int (0 : Int32)), .val (.int ((p6.toUInt32 >>> ((1 : Int32) &&& 31).toUInt32).toInt32)), .val (.int y1), .val (.int y2), .val (.int y3), .val (.int y4), .unset, .unset, .unset, .unset, .unset] [(.int (4 : Int32))])) _
              simp only [if_neg hc186, if_neg hc187, if_neg hc188, if_neg hc189] at k
              exact k
    obtain ⟨av, h_av⟩ : ∃ z_ : Int32, z_ = (if y1 < (0 : Int32) then (0 : Int32) else (if y2 < (0 : Int32) then (1 : Int32) else (if y3 < (0 : Int32) then (2 : Int32) else (if y4 < (0 : Int32) then (3 : Int32) else (4 : Int32))))) := ⟨_, rfl⟩
    have K191 : ∀ t, Steps p.tables e below (T181.setTop (mkF m 215 #[.val (.int p1), .val (.int p2), .val (.int p3), .val (.int p4), .val (.int p5), .val (.int p6), .val (.ref b2), .val (.int cp), .val (.int nv), .val (.int ix), .val (.int (0 : Int32)), .val (.int ((p6.toUInt32 >>> ((1 : Int32) &&& 31).toUInt32).toInt32)), .val (.int y1), .val (.int y2), .val (.int y3), .val (.int y4), .unset, .unset, .unset, .unset, .unset] [(.int av)])) t → Steps p.tables e below G t := by rw [h_av]; exact K190
    have hav := own_av h_av
    have hav4 : 0 ≤ av.toInt ∧ av.toInt ≤ 4 := hav.2.2.2.2
    have K192 : ∀ t, Steps p.tables e below (T181.setTop (mkF m 224 #[.val (.int p1), .val (.int p2), .val (.int p3), .val (.int p4), .val (.int p5), .val (.int p6), .val (.ref b2), .val (.int cp), .val (.int nv), .val (.int ix), .val (.int (0 : Int32)), .val (.int ((p6.toUInt32 >>> ((1 : Int32) &&& 31).toUInt32).toInt32)), .val (.int y1), .val (.int y2), .val (.int y3), .val (.int y4), .val (.int av), .unset, .unset, .unset, .unset] [(.int (((p6.toUInt32 >>> ((1 : Int32) &&& 31).toUInt32).toInt32) % (av + (1 : Int32))))])) t → Steps p.tables e below G t := by
      intro t k
      refine K191 t ?_
      refine XS.istore X181.here hx rfl (hb hby at_215) rfl (l' := #[.val (.int p1), .val (.int p2), .val (.int p3), .val (.int p4), .val (.int p5), .val (.int p6), .val (.ref b2), .val (.int cp), .val (.int nv), .val (.int ix), .val (.int (0 : Int32)), .val (.int ((p6.toUInt32 >>> ((1 : Int32) &&& 31).toUInt32).toInt32)), .val (.int y1), .val (.int y2), .val (.int y3), .val (.int y4), .val (.int av), .unset, .unset, .unset, .unset]) rfl ?_
      refine XS.iload X181.here hx rfl (hb hby at_217) rfl ?_
      refine XS.iload X181.here hx rfl (hb hby at_219) rfl ?_
      refine XS.iconst X181.here hx rfl (hb hby at_221) ?_
      refine XS.iadd X181.here hx rfl (hb hby at_222) rfl ?_
      refine iremM X181 hx rfl (hb hby at_223) rfl (own_n1 hav4).2 ?_
      exact k
    obtain ⟨t9, h_t9⟩ : ∃ z_ : Int32, z_ = (((p6.toUInt32 >>> ((1 : Int32) &&& 31).toUInt32).toInt32) % (av + (1 : Int32))) := ⟨_, rfl⟩
    have K193 : ∀ t, Steps p.tables e below (T181.setTop (mkF m 224 #[.val (.int p1), .val (.int p2), .val (.int p3), .val (.int p4), .val (.int p5), .val (.int p6), .val (.ref b2), .val (.int cp), .val (.int nv), .val (.int ix), .val (.int (0 : Int32)), .val (.int ((p6.toUInt32 >>> ((1 : Int32) &&& 31).toUInt32).toInt32)), .val (.int y1), .val (.int y2), .val (.int y3), .val (.int y4), .val (.int av), .unset, .unset, .unset, .unset] [(.int t9)])) t → Steps p.tables e below G t := by rw [h_t9]; exact K192
    have ht : 0 ≤ t9.toInt ∧ t9.toInt ≤ av.toInt := by rw [h_t9]; exact own_rn (own_u1 _) hav4
    have K194 : ∀ t, Steps p.tables e below (T181.setTop (mkF m 228 #[.val (.int p1), .val (.int p2), .val (.int p3), .val (.int p4), .val (.int p5), .val (.int p6), .val (.ref b2), .val (.int cp), .val (.int nv), .val (.int ix), .val (.int (0 : Int32)), .val (.int ((p6.toUInt32 >>> ((1 : Int32) &&& 31).toUInt32).toInt32)), .val (.int y1), .val (.int y2), .val (.int y3), .val (.int y4), .val (.int av), .val (.int t9), .unset, .unset, .unset] [(.int t9)])) t → Steps p.tables e below G t := by
      intro t k
      refine K193 t ?_
      refine XS.istore X181.here hx rfl (hb hby at_224) rfl (l' := #[.val (.int p1), .val (.int p2), .val (.int p3), .val (.int p4), .val (.int p5), .val (.int p6), .val (.ref b2), .val (.int cp), .val (.int nv), .val (.int ix), .val (.int (0 : Int32)), .val (.int ((p6.toUInt32 >>> ((1 : Int32) &&& 31).toUInt32).toInt32)), .val (.int y1), .val (.int y2), .val (.int y3), .val (.int y4), .val (.int av), .val (.int t9), .unset, .unset, .unset]) rfl ?_
      refine XS.iload X181.here hx rfl (hb hby at_226) rfl ?_
      exact k
    have K199 : ∀ t, Steps p.tables e below (T181.setTop (mkF m 271 #[.val (.int p1), .val (.int p2), .val (.int p3), .val (.int p4), .val (.int p5), .val (.int p6), .val (.ref b2), .val (.int cp), .val (.int nv), .val (.int ix), .val (.int (0 : Int32)), .val (.int ((p6.toUInt32 >>> ((1 : Int32) &&& 31).toUInt32).toInt32)), .val (.int y1), .val (.int y2), .val (.int y3), .val (.int y4), .val (.int av), .val (.int t9), .unset, .unset, .unset] [(.int (if t9 = (0 : Int32) then ix else (if t9 = (1 : Int32) then y1 else (if t9 = (2 : Int32) then y2 else (if t9 = (3 : Int32) then y3 else y4)))))])) t → Steps p.tables e below G t := by
      intro t k
      refine K194 t ?_
      by_cases hc195 : t9 = (0 : Int32)
      · show Steps p.tables e below (T181.setTop (mkF m 228 #[.val (.int p1), .val (.int p2), .val (.int p3), .val (.int p4), .val (.int p5), .val (.int p6), .val (.ref b2), .val (.int cp), .val (.int nv), .val (.int ix), .val (.int (0 : Int32)), .val (.int ((p6.toUInt32 >>> ((1 : Int32) &&& 31).toUInt32).toInt32)), .val (.int y1), .val (.int y2), .val (.int y3), .val (.int y4), .val (.int av), .val (.int t9), .unset, .unset, .unset] [(.int t9)])) _
        refine XS.ifNo X181.here hx rfl (hb hby at_228) rfl ((if0 _ _).trans (teq hc195).2) ?_
        show Steps p.tables e below (T181.setTop (mkF m 231 #[.val (.int p1), .val (.int p2), .val (.int p3), .val (.int p4), .val (.int p5), .val (.int p6), .val (.ref b2), .val (.int cp), .val (.int nv), .val (.int ix), .val (.int (0 : Int32)), .val (.int ((p6.toUInt32 >>> ((1 : Int32) &&& 31).toUInt32).toInt32)), .val (.int y1), .val (.int y2), .val (.int y3), .val (.int y4), .val (.int av), .val (.int t9), .unset, .unset, .unset] [])) _
        refine XS.iload X181.here hx rfl (hb hby at_231) rfl ?_
        show Steps p.tables e below (T181.setTop (mkF m 233 #[.val (.int p1), .val (.int p2), .val (.int p3), .val (.int p4), .val (.int p5), .val (.int p6), .val (.ref b2), .val (.int cp), .val (.int nv), .val (.int ix), .val (.int (0 : Int32)), .val (.int ((p6.toUInt32 >>> ((1 : Int32) &&& 31).toUInt32).toInt32)), .val (.int y1), .val (.int y2), .val (.int y3), .val (.int y4), .val (.int av), .val (.int t9), .unset, .unset, .unset] [(.int ix)])) _
        refine XS.goto X181.here hx rfl (pc0 := 233) (pc' := 271) rfl (hb hby at_233) (by decide) (by decide) ?_
        show Steps p.tables e below (T181.setTop (mkF m 271 #[.val (.int p1), .val (.int p2), .val (.int p3), .val (.int p4), .val (.int p5), .val (.int p6), .val (.ref b2), .val (.int cp), .val (.int nv), .val (.int ix), .val (.int (0 : Int32)), .val (.int ((p6.toUInt32 >>> ((1 : Int32) &&& 31).toUInt32).toInt32)), .val (.int y1), .val (.int y2), .val (.int y3), .val (.int y4), .val (.int av), .val (.int t9), .unset, .unset, .unset] [(.int ix)])) _
        simp only [if_pos hc195] at k
        exact k
      · show Steps p.tables e below (T181.setTop (mkF m 228 #[.val (.int p1), .val (.int p2), .val (.int p3), .val (.int p4), .val (.int p5), .val (.int p6), .val (.ref b2), .val (.int cp), .val (.int nv), .val (.int ix), .val (.int (0 : Int32)), .val (.int ((p6.toUInt32 >>> ((1 : Int32) &&& 31).toUInt32).toInt32)), .val (.int y1), .val (.int y2), .val (.int y3), .val (.int y4), .val (.int av), .val (.int t9), .unset, .unset, .unset] [(.int t9)])) _
        refine XS.ifYes X181.here hx rfl (pc0 := 228) (pc' := 236) rfl (hb hby at_228) rfl ((if0 _ _).trans (feq hc195).2) (by decide) (by decide) ?_
        show Steps p.tables e below (T181.setTop (mkF m 236 #[.val (.int p1), .val (.int p2), .val (.int p3), .val (.int p4), .val (.int p5), .val (.int p6), .val (.ref b2), .val (.int cp), .val (.int nv), .val (.int ix), .val (.int (0 : Int32)), .val (.int ((p6.toUInt32 >>> ((1 : Int32) &&& 31).toUInt32).toInt32)), .val (.int y1), .val (.int y2), .val (.int y3), .val (.int y4), .val (.int av), .val (.int t9), .unset, .unset, .unset] [])) _
        refine XS.iload X181.here hx rfl (hb hby at_236) rfl ?_
        show Steps p.tables e below (T181.setTop (mkF m 238 #[.val (.int p1), .val (.int p2), .val (.int p3), .val (.int p4), .val (.int p5), .val (.int p6), .val (.ref b2), .val (.int cp), .val (.int nv), .val (.int ix), .val (.int (0 : Int32)), .val (.int ((p6.toUInt32 >>> ((1 : Int32) &&& 31).toUInt32).toInt32)), .val (.int y1), .val (.int y2), .val (.int y3), .val (.int y4), .val (.int av), .val (.int t9), .unset, .unset, .unset] [(.int t9)])) _
        refine XS.iconst X181.here hx rfl (hb hby at_238) ?_
        by_cases hc196 : t9 = (1 : Int32)
        · show Steps p.tables e below (T181.setTop (mkF m 239 #[.val (.int p1), .val (.int p2), .val (.int p3), .val (.int p4), .val (.int p5), .val (.int p6), .val (.ref b2), .val (.int cp), .val (.int nv), .val (.int ix), .val (.int (0 : Int32)), .val (.int ((p6.toUInt32 >>> ((1 : Int32) &&& 31).toUInt32).toInt32)), .val (.int y1), .val (.int y2), .val (.int y3), .val (.int y4), .val (.int av), .val (.int t9), .unset, .unset, .unset] [(.int (1 : Int32)), (.int t9)])) _
          refine XS.icmpNo X181.here hx rfl (hb hby at_239) rfl (teq hc196).2 ?_
          show Steps p.tables e below (T181.setTop (mkF m 242 #[.val (.int p1), .val (.int p2), .val (.int p3), .val (.int p4), .val (.int p5), .val (.int p6), .val (.ref b2), .val (.int cp), .val (.int nv), .val (.int ix), .val (.int (0 : Int32)), .val (.int ((p6.toUInt32 >>> ((1 : Int32) &&& 31).toUInt32).toInt32)), .val (.int y1), .val (.int y2), .val (.int y3), .val (.int y4), .val (.int av), .val (.int t9), .unset, .unset, .unset] [])) _
          refine XS.iload X181.here hx rfl (hb hby at_242) rfl ?_
          show Steps p.tables e below (T181.setTop (mkF m 244 #[.val (.int p1), .val (.int p2), .val (.int p3), .val (.int p4), .val (.int p5), .val (.int p6), .val (.ref b2), .val (.int cp), .val (.int nv), .val (.int ix), .val (.int (0 : Int32)), .val (.int ((p6.toUInt32 >>> ((1 : Int32) &&& 31).toUInt32).toInt32)), .val (.int y1), .val (.int y2), .val (.int y3), .val (.int y4), .val (.int av), .val (.int t9), .unset, .unset, .unset] [(.int y1)])) _
          refine XS.goto X181.here hx rfl (pc0 := 244) (pc' := 271) rfl (hb hby at_244) (by decide) (by decide) ?_
          show Steps p.tables e below (T181.setTop (mkF m 271 #[.val (.int p1), .val (.int p2), .val (.int p3), .val (.int p4), .val (.int p5), .val (.int p6), .val (.ref b2), .val (.int cp), .val (.int nv), .val (.int ix), .val (.int (0 : Int32)), .val (.int ((p6.toUInt32 >>> ((1 : Int32) &&& 31).toUInt32).toInt32)), .val (.int y1), .val (.int y2), .val (.int y3), .val (.int y4), .val (.int av), .val (.int t9), .unset, .unset, .unset] [(.int y1)])) _
          simp only [if_neg hc195, if_pos hc196] at k
          exact k
        · show Steps p.tables e below (T181.setTop (mkF m 239 #[.val (.int p1), .val (.int p2), .val (.int p3), .val (.int p4), .val (.int p5), .val (.int p6), .val (.ref b2), .val (.int cp), .val (.int nv), .val (.int ix), .val (.int (0 : Int32)), .val (.int ((p6.toUInt32 >>> ((1 : Int32) &&& 31).toUInt32).toInt32)), .val (.int y1), .val (.int y2), .val (.int y3), .val (.int y4), .val (.int av), .val (.int t9), .unset, .unset, .unset] [(.int (1 : Int32)), (.int t9)])) _
          refine XS.icmpYes X181.here hx rfl (pc0 := 239) (pc' := 247) rfl (hb hby at_239) rfl (feq hc196).2 (by decide) (by decide) ?_
          show Steps p.tables e below (T181.setTop (mkF m 247 #[.val (.int p1), .val (.int p2), .val (.int p3), .val (.int p4), .val (.int p5), .val (.int p6), .val (.ref b2), .val (.int cp), .val (.int nv), .val (.int ix), .val (.int (0 : Int32)), .val (.int ((p6.toUInt32 >>> ((1 : Int32) &&& 31).toUInt32).toInt32)), .val (.int y1), .val (.int y2), .val (.int y3), .val (.int y4), .val (.int av), .val (.int t9), .unset, .unset, .unset] [])) _
          refine XS.iload X181.here hx rfl (hb hby at_247) rfl ?_
          show Steps p.tables e below (T181.setTop (mkF m 249 #[.val (.int p1), .val (.int p2), .val (.int p3), .val (.int p4), .val (.int p5), .val (.int p6), .val (.ref b2), .val (.int cp), .val (.int nv), .val (.int ix), .val (.int (0 : Int32)), .val (.int ((p6.toUInt32 >>> ((1 : Int32) &&& 31).toUInt32).toInt32)), .val (.int y1), .val (.int y2), .val (.int y3), .val (.int y4), .val (.int av), .val (.int t9), .unset, .unset, .unset] [(.int t9)])) _
          refine XS.iconst X181.here hx rfl (hb hby at_249) ?_
          by_cases hc197 : t9 = (2 : Int32)
          · show Steps p.tables e below (T181.setTop (mkF m 250 #[.val (.int p1), .val (.int p2), .val (.int p3), .val (.int p4), .val (.int p5), .val (.int p6), .val (.ref b2), .val (.int cp), .val (.int nv), .val (.int ix), .val (.int (0 : Int32)), .val (.int ((p6.toUInt32 >>> ((1 : Int32) &&& 31).toUInt32).toInt32)), .val (.int y1), .val (.int y2), .val (.int y3), .val (.int y4), .val (.int av), .val (.int t9), .unset, .unset, .unset] [(.int (2 : Int32)), (.int t9)])) _
            refine XS.icmpNo X181.here hx rfl (hb hby at_250) rfl (teq hc197).2 ?_
            show Steps p.tables e below (T181.setTop (mkF m 253 #[.val (.int p1), .val (.int p2), .val (.int p3), .val (.int p4), .val (.int p5), .val (.int p6), .val (.ref b2), .val (.int cp), .val (.int nv), .val (.int ix), .val (.int (0 : Int32)), .val (.int ((p6.toUInt32 >>> ((1 : Int32) &&& 31).toUInt32).toInt32)), .val (.int y1), .val (.int y2), .val (.int y3), .val (.int y4), .val (.int av), .val (.int t9), .unset, .unset, .unset] [])) _
            refine XS.iload X181.here hx rfl (hb hby at_253) rfl ?_
            show Steps p.tables e below (T181.setTop (mkF m 255 #[.val (.int p1), .val (.int p2), .val (.int p3), .val (.int p4), .val (.int p5), .val (.int p6), .val (.ref b2), .val (.int cp), .val (.int nv), .val (.int ix), .val (.int (0 : Int32)), .val (.int ((p6.toUInt32 >>> ((1 : Int32) &&& 31).toUInt32).toInt32)), .val (.int y1), .val (.int y2), .val (.int y3), .val (.int y4), .val (.int av), .val (.int t9), .unset, .unset, .unset] [(.int y2)])) _
            refine XS.goto X181.here hx rfl (pc0 := 255) (pc' := 271) rfl (hb hby at_255) (by decide) (by decide) ?_
            show Steps p.tables e below (T181.setTop (mkF m 271 #[.val (.int p1), .val (.int p2), .val (.int p3), .val (.int p4), .val (.int p5), .val (.int p6), .val (.ref b2), .val (.int cp), .val (.int nv), .val (.int ix), .val (.int (0 : Int32)), .val (.int ((p6.toUInt32 >>> ((1 : Int32) &&& 31).toUInt32).toInt32)), .val (.int y1), .val (.int y2), .val (.int y3), .val (.int y4), .val (.int av), .val (.int t9), .unset, .unset, .unset] [(.int y2)])) _
            simp only [if_neg hc195, if_neg hc196, if_pos hc197] at k
            exact k
          · show Steps p.tables e below (T181.setTop (mkF m 250 #[.val (.int p1), .val (.int p2), .val (.int p3), .val (.int p4), .val (.int p5), .val (.int p6), .val (.ref b2), .val (.int cp), .val (.int nv), .val (.int ix), .val (.int (0 : Int32)), .val (.int ((p6.toUInt32 >>> ((1 : Int32) &&& 31).toUInt32).toInt32)), .val (.int y1), .val (.int y2), .val (.int y3), .val (.int y4), .val (.int av), .val (.int t9), .unset, .unset, .unset] [(.int (2 : Int32)), (.int t9)])) _
            refine XS.icmpYes X181.here hx rfl (pc0 := 250) (pc' := 258) rfl (hb hby at_250) rfl (feq hc197).2 (by decide) (by decide) ?_
            show Steps p.tables e below (T181.setTop (mkF m 258 #[.val (.int p1), .val (.int p2), .val (.int p3), .val (.int p4), .val (.int p5), .val (.int p6), .val (.ref b2), .val (.int cp), .val (.int nv), .val (.int ix), .val (.int (0 : Int32)), .val (.int ((p6.toUInt32 >>> ((1 : Int32) &&& 31).toUInt32).toInt32)), .val (.int y1), .val (.int y2), .val (.int y3), .val (.int y4), .val (.int av), .val (.int t9), .unset, .unset, .unset] [])) _
            refine XS.iload X181.here hx rfl (hb hby at_258) rfl ?_
            show Steps p.tables e below (T181.setTop (mkF m 260 #[.val (.int p1), .val (.int p2), .val (.int p3), .val (.int p4), .val (.int p5), .val (.int p6), .val (.ref b2), .val (.int cp), .val (.int nv), .val (.int ix), .val (.int (0 : Int32)), .val (.int ((p6.toUInt32 >>> ((1 : Int32) &&& 31).toUInt32).toInt32)), .val (.int y1), .val (.int y2), .val (.int y3), .val (.int y4), .val (.int av), .val (.int t9), .unset, .unset, .unset] [(.int t9)])) _
            refine XS.iconst X181.here hx rfl (hb hby at_260) ?_
            by_cases hc198 : t9 = (3 : Int32)
            · show Steps p.tables e below (T181.setTop (mkF m 261 #[.val (.int p1), .val (.int p2), .val (.int p3), .val (.int p4), .val (.int p5), .val (.int p6), .val (.ref b2), .val (.int cp), .val (.int nv), .val (.int ix), .val (.int (0 : Int32)), .val (.int ((p6.toUInt32 >>> ((1 : Int32) &&& 31).toUInt32).toInt32)), .val (.int y1), .val (.int y2), .val (.int y3), .val (.int y4), .val (.int av), .val (.int t9), .unset, .unset, .unset] [(.int (3 : Int32)), (.int t9)])) _
              refine XS.icmpNo X181.here hx rfl (hb hby at_261) rfl (teq hc198).2 ?_
              show Steps p.tables e below (T181.setTop (mkF m 264 #[.val (.int p1), .val (.int p2), .val (.int p3), .val (.int p4), .val (.int p5), .val (.int p6), .val (.ref b2), .val (.int cp), .val (.int nv), .val (.int ix), .val (.int (0 : Int32)), .val (.int ((p6.toUInt32 >>> ((1 : Int32) &&& 31).toUInt32).toInt32)), .val (.int y1), .val (.int y2), .val (.int y3), .val (.int y4), .val (.int av), .val (.int t9), .unset, .unset, .unset] [])) _
              refine XS.iload X181.here hx rfl (hb hby at_264) rfl ?_
              show Steps p.tables e below (T181.setTop (mkF m 266 #[.val (.int p1), .val (.int p2), .val (.int p3), .val (.int p4), .val (.int p5), .val (.int p6), .val (.ref b2), .val (.int cp), .val (.int nv), .val (.int ix), .val (.int (0 : Int32)), .val (.int ((p6.toUInt32 >>> ((1 : Int32) &&& 31).toUInt32).toInt32)), .val (.int y1), .val (.int y2), .val (.int y3), .val (.int y4), .val (.int av), .val (.int t9), .unset, .unset, .unset] [(.int y3)])) _
              refine XS.goto X181.here hx rfl (pc0 := 266) (pc' := 271) rfl (hb hby at_266) (by decide) (by decide) ?_
              show Steps p.tables e below (T181.setTop (mkF m 271 #[.val (.int p1), .val (.int p2), .val (.int p3), .val (.int p4), .val (.int p5), .val (.int p6), .val (.ref b2), .val (.int cp), .val (.int nv), .val (.int ix), .val (.int (0 : Int32)), .val (.int ((p6.toUInt32 >>> ((1 : Int32) &&& 31).toUInt32).toInt32)), .val (.int y1), .val (.int y2), .val (.int y3), .val (.int y4), .val (.int av), .val (.int t9), .unset, .unset, .unset] [(.int y3)])) _
              simp only [if_neg hc195, if_neg hc196, if_neg hc197, if_pos hc198] at k
              exact k
            · show Steps p.tables e below (T181.setTop (mkF m 261 #[.val (.int p1), .val (.int p2), .val (.int p3), .val (.int p4), .val (.int p5), .val (.int p6), .val (.ref b2), .val (.int cp), .val (.int nv), .val (.int ix), .val (.int (0 : Int32)), .val (.int ((p6.toUInt32 >>> ((1 : Int32) &&& 31).toUInt32).toInt32)), .val (.int y1), .val (.int y2), .val (.int y3), .val (.int y4), .val (.int av), .val (.int t9), .unset, .unset, .unset] [(.int (3 : Int32)), (.int t9)])) _
              refine XS.icmpYes X181.here hx rfl (pc0 := 261) (pc' := 269) rfl (hb hby at_261) rfl (feq hc198).2 (by decide) (by decide) ?_
              show Steps p.tables e below (T181.setTop (mkF m 269 #[.val (.int p1), .val (.int p2), .val (.int p3), .val (.int p4), .val (.int p5), .val (.int p6), .val (.ref b2), .val (.int cp), .val (.int nv), .val (.int ix), .val (.int (0 : Int32)), .val (.int ((p6.toUInt32 >>> ((1 : Int32) &&& 31).toUInt32).toInt32)), .val (.int y1), .val (.int y2), .val (.int y3), .val (.int y4), .val (.int av), .val (.int t9), .unset, .unset, .unset] [])) _
              refine XS.iload X181.here hx rfl (hb hby at_269) rfl ?_
              show Steps p.tables e below (T181.setTop (mkF m 271 #[.val (.int p1), .val (.int p2), .val (.int p3), .val (.int p4), .val (.int p5), .val (.int p6), .val (.ref b2), .val (.int cp), .val (.int nv), .val (.int ix), .val (.int (0 : Int32)), .val (.int ((p6.toUInt32 >>> ((1 : Int32) &&& 31).toUInt32).toInt32)), .val (.int y1), .val (.int y2), .val (.int y3), .val (.int y4), .val (.int av), .val (.int t9), .unset, .unset, .unset] [(.int y4)])) _
              simp only [if_neg hc195, if_neg hc196, if_neg hc197, if_neg hc198] at k
              exact k
    obtain ⟨ex, h_ex⟩ : ∃ z_ : Int32, z_ = (if t9 = (0 : Int32) then ix else (if t9 = (1 : Int32) then y1 else (if t9 = (2 : Int32) then y2 else (if t9 = (3 : Int32) then y3 else y4)))) := ⟨_, rfl⟩
    have K200 : ∀ t, Steps p.tables e below (T181.setTop (mkF m 271 #[.val (.int p1), .val (.int p2), .val (.int p3), .val (.int p4), .val (.int p5), .val (.int p6), .val (.ref b2), .val (.int cp), .val (.int nv), .val (.int ix), .val (.int (0 : Int32)), .val (.int ((p6.toUInt32 >>> ((1 : Int32) &&& 31).toUInt32).toInt32)), .val (.int y1), .val (.int y2), .val (.int y3), .val (.int y4), .val (.int av), .val (.int t9), .unset, .unset, .unset] [(.int ex)])) t → Steps p.tables e below G t := by rw [h_ex]; exact K199
    have K201 : ∀ t, Steps p.tables e below (T181.setTop (mkF m 288 #[.val (.int p1), .val (.int p2), .val (.int p3), .val (.int p4), .val (.int p5), .val (.int p6), .val (.ref b2), .val (.int cp), .val (.int nv), .val (.int ix), .val (.int (0 : Int32)), .val (.int ((p6.toUInt32 >>> ((1 : Int32) &&& 31).toUInt32).toInt32)), .val (.int y1), .val (.int y2), .val (.int y3), .val (.int y4), .val (.int av), .val (.int t9), .val (.int ex), .val (.int (-t9)), .unset] [])) t → Steps p.tables e below G t := by
      intro t k
      refine K200 t ?_
      refine XS.istore X181.here hx rfl (hb hby at_271) rfl (l' := #[.val (.int p1), .val (.int p2), .val (.int p3), .val (.int p4), .val (.int p5), .val (.int p6), .val (.ref b2), .val (.int cp), .val (.int nv), .val (.int ix), .val (.int (0 : Int32)), .val (.int ((p6.toUInt32 >>> ((1 : Int32) &&& 31).toUInt32).toInt32)), .val (.int y1), .val (.int y2), .val (.int y3), .val (.int y4), .val (.int av), .val (.int t9), .val (.int ex), .unset, .unset]) rfl ?_
      refine XS.iload X181.here hx rfl (hb hby at_273) rfl ?_
      refine XS.ifYes X181.here hx rfl (pc0 := 275) (pc' := 283) rfl (hb hby at_275) rfl ((if0 _ _).trans (teq (by decide)).1) (by decide) (by decide) ?_
      refine XS.iload X181.here hx rfl (hb hby at_283) rfl ?_
      refine XS.ineg X181.here hx rfl (hb hby at_285) rfl ?_
      refine XS.istore X181.here hx rfl (hb hby at_286) rfl (l' := #[.val (.int p1), .val (.int p2), .val (.int p3), .val (.int p4), .val (.int p5), .val (.int p6), .val (.ref b2), .val (.int cp), .val (.int nv), .val (.int ix), .val (.int (0 : Int32)), .val (.int ((p6.toUInt32 >>> ((1 : Int32) &&& 31).toUInt32).toInt32)), .val (.int y1), .val (.int y2), .val (.int y3), .val (.int y4), .val (.int av), .val (.int t9), .val (.int ex), .val (.int (-t9)), .unset]) rfl ?_
      exact k
    obtain ⟨T202, h202, X202, e202, E202, A202, D202, -, st202⟩ := newO X181 hx hZ hown (hw _ (List.mem_of_getElem? (i := 11) rfl)) (hw _ (List.mem_of_getElem? (i := 12) rfl)) (hw _ (List.mem_of_getElem? (i := 13) rfl)) e181 (g := (mkF m 288 #[.val (.int p1), .val (.int p2), .val (.int p3), .val (.int p4), .val (.int p5), .val (.int p6), .val (.ref b2), .val (.int cp), .val (.int nv), .val (.int ix), .val (.int (0 : Int32)), .val (.int ((p6.toUInt32 >>> ((1 : Int32) &&& 31).toUInt32).toInt32)), .val (.int y1), .val (.int y2), .val (.int y3), .val (.int y4), .val (.int av), .val (.int t9), .val (.int ex), .val (.int (-t9)), .unset] [])) rfl (hb hby at_288) (by decide) (by decide)
    obtain ⟨b202, g202⟩ : ∃ z, z = h41.size := ⟨_, rfl⟩
    rw [← g202] at A202 D202 st202
    have ne_b2_b202 : b2 ≠ b202 := Nat.ne_of_lt (Nat.lt_of_lt_of_le VE.lt (Nat.le_of_eq g202.symm))
    have g_b202 : n0 ≤ b202 := Nat.le_trans Z44 (Nat.le_of_eq g202.symm)
    have sz_b202 : h0.size ≤ b202 := Nat.le_trans KP45.1 (Nat.le_of_eq g202.symm)
    have f203 := f43.ext E202
    have f204 := VE.ext E202
    have Z205 : n0 ≤ h202.size := Nat.le_trans Z44 E202.1
    have KP206 : Keep h0 h202 [] := KP45.ext E202
    have K207 : ∀ t, Steps p.tables e below (T202.setTop (mkF m 291 #[.val (.int p1), .val (.int p2), .val (.int p3), .val (.int p4), .val (.int p5), .val (.int p6), .val (.ref b2), .val (.int cp), .val (.int nv), .val (.int ix), .val (.int (0 : Int32)), .val (.int ((p6.toUInt32 >>> ((1 : Int32) &&& 31).toUInt32).toInt32)), .val (.int y1), .val (.int y2), .val (.int y3), .val (.int y4), .val (.int av), .val (.int t9), .val (.int ex), .val (.int (-t9)), .unset] [(.ref b202)])) t → Steps p.tables e below G t := fun t k => K201 t (st202 t k)
    have f208 : Fld Z h202 b202 "org/arborlog/pattern/LineText" "chars" "[C" .null := D202 (Or.inl (hw _ (List.mem_of_getElem? (i := 21) rfl))) (ty := (.array .char)) (by decide)
    have f209 : Fld Z h202 b202 "org/arborlog/pattern/LineText" "length" "I" (.int (0 : Int32)) := D202 (Or.inl (hw _ (List.mem_of_getElem? (i := 84) rfl))) (ty := .int) (by decide)
    have K210 : ∀ t, Steps p.tables e below (T202.setTop (mkF m 294 #[.val (.int p1), .val (.int p2), .val (.int p3), .val (.int p4), .val (.int p5), .val (.int p6), .val (.ref b2), .val (.int cp), .val (.int nv), .val (.int ix), .val (.int (0 : Int32)), .val (.int ((p6.toUInt32 >>> ((1 : Int32) &&& 31).toUInt32).toInt32)), .val (.int y1), .val (.int y2), .val (.int y3), .val (.int y4), .val (.int av), .val (.int t9), .val (.int ex), .val (.int (-t9)), .unset] [(.int cp), (.ref b202), (.ref b202)])) t → Steps p.tables e below G t := by
      intro t k
      refine K207 t ?_
      refine XS.dup X202.here hx rfl (hb hby at_291) rfl rfl ?_
      refine XS.iload X202.here hx rfl (hb hby at_292) rfl ?_
      exact k
    obtain ⟨_, _, ⟨T211, L211, kk211, nn211⟩, -, X211, ⟨Lc211, hQ211, lq211, yq211, zq211⟩, st211⟩ := X202.specialBack hx (y := (⟨"org/arborlog/pattern/LineText", "<init>", "(I)V"⟩ : MethodName)) rfl hown (mvT hZ (hw _ (List.mem_of_getElem? (i := 14) rfl))) (mvT hZ (hw _ (List.mem_of_getElem? (i := 15) rfl))) (mvT hZ (hw _ (List.mem_of_getElem? (i := 16) rfl))) (by decide) (backOf (W := 1) (rm3 l Z a0 hw [] b202 cp h202 n0 Z205 A202 f208 f209 g_b202 hc7.1 hc7.2.1) hZ (hw _ (List.mem_of_getElem? (i := 16) rfl)) (hw _ (List.mem_of_getElem? (i := 13) rfl)) (by decide) (by decide)) (g := (mkF m 294 #[.val (.int p1), .val (.int p2), .val (.int p3), .val (.int p4), .val (.int p5), .val (.int p6), .val (.ref b2), .val (.int cp), .val (.int nv), .val (.int ix), .val (.int (0 : Int32)), .val (.int ((p6.toUInt32 >>> ((1 : Int32) &&& 31).toUInt32).toInt32)), .val (.int y1), .val (.int y2), .val (.int y3), .val (.int y4), .val (.int av), .val (.int t9), .val (.int ex), .val (.int (-t9)), .unset] [(.int cp), (.ref b202), (.ref b202)])) rfl (by rw [hml]; rfl) (Steps.refl _) (a := b202) (argsL := [(.int cp)]) (rest := [(.ref b202)]) (lenOf pd_20 rfl) rfl (by show 2 * 0 + _ ≤ _; exact Nat.le_of_eq rfl) (hb hby at_294) (fun _ _ => ⟨rfl, e202, (by decide : 2 + 1 ≤ _), (by decide : 6 + 8 ≤ _)⟩)
    dsimp only [Pt.U, Pt.locs, Pt.cells, Pt.slots] at X211 lq211 yq211 zq211 st211 hQ211
    subst lq211 yq211 zq211
    obtain ⟨b211, kb211, rfl, Nq211, K211, sz211, E211', Fc211, Fl211, Vb211⟩ := hQ211
    have N212 := Fr.app N182 Nq211
    have ne_b2_b211 : b2 ≠ b211 := Nat.ne_of_lt (Nat.lt_of_lt_of_le f204.lt sz211)
    have ne_b202_b211 : b202 ≠ b211 := Nat.ne_of_lt (Nat.lt_of_lt_of_le A202.lt sz211)
    have g_b211 : n0 ≤ b211 := Nat.le_trans Z205 sz211
    have sz_b211 : h0.size ≤ b211 := Nat.le_trans KP206.1 sz211
    have f213 := f203.keep K211 (allS g_b202 all0)
    have f214 := f204.keep K211 (ninS ne_b2_b202 nin0)
    have f215 := A202.keep K211
    have Z216 : n0 ≤ T211.heap.size := Nat.le_trans Z205 K211.1
    have KP217 : Keep h0 T211.heap [] := KP206.trans K211 (allS (Or.inr sz_b202) all0)
    have K218 : ∀ t, Steps p.tables e below (T211.setTop (mkF m 297 #[.val (.int p1), .val (.int p2), .val (.int p3), .val (.int p4), .val (.int p5), .val (.int p6), .val (.ref b2), .val (.int cp), .val (.int nv), .val (.int ix), .val (.int (0 : Int32)), .val (.int ((p6.toUInt32 >>> ((1 : Int32) &&& 31).toUInt32).toInt32)), .val (.int y1), .val (.int y2), .val (.int y3), .val (.int y4), .val (.int av), .val (.int t9), .val (.int ex), .val (.int (-t9)), .unset] [(.ref b202)])) t → Steps p.tables e below G t := fun t k => K210 t (st211.trans k)
    have K219 : ∀ t, Steps p.tables e below (T211.setTop (mkF m 301 #[.val (.int p1), .val (.int p2), .val (.int p3), .val (.int p4), .val (.int p5), .val (.int p6), .val (.ref b2), .val (.int cp), .val (.int nv), .val (.int ix), .val (.int (0 : Int32)), .val (.int ((p6.toUInt32 >>> ((1 : Int32) &&& 31).toUInt32).toInt32)), .val (.int y1), .val (.int y2), .val (.int y3), .val (.int y4), .val (.int av), .val (.int t9), .val (.int ex), .val (.int (-t9)), .val (.ref b202)] [(.ref b202)])) t → Steps p.tables e below G t := by
      intro t k
      refine K218 t ?_
      refine XS.astore X211.here hx rfl (hb hby at_297) rfl rfl (l' := #[.val (.int p1), .val (.int p2), .val (.int p3), .val (.int p4), .val (.int p5), .val (.int p6), .val (.ref b2), .val (.int cp), .val (.int nv), .val (.int ix), .val (.int (0 : Int32)), .val (.int ((p6.toUInt32 >>> ((1 : Int32) &&& 31).toUInt32).toInt32)), .val (.int y1), .val (.int y2), .val (.int y3), .val (.int y4), .val (.int av), .val (.int t9), .val (.int ex), .val (.int (-t9)), .val (.ref b202)]) rfl ?_
      refine XS.aload X211.here hx rfl (hb hby at_299) rfl rfl ?_
      exact k
    obtain ⟨T220, h220, X220, e220, E220, A220, D220, -, st220⟩ := newO X211 hx hZ hown (hw _ (List.mem_of_getElem? (i := 22) rfl)) (hw _ (List.mem_of_getElem? (i := 23) rfl)) (hw _ (List.mem_of_getElem? (i := 24) rfl)) rfl (g := (mkF m 301 #[.val (.int p1), .val (.int p2), .val (.int p3), .val (.int p4), .val (.int p5), .val (.int p6), .val (.ref b2), .val (.int cp), .val (.int nv), .val (.int ix), .val (.int (0 : Int32)), .val (.int ((p6.toUInt32 >>> ((1 : Int32) &&& 31).toUInt32).toInt32)), .val (.int y1), .val (.int y2), .val (.int y3), .val (.int y4), .val (.int av), .val (.int t9), .val (.int ex), .val (.int (-t9)), .val (.ref b202)] [(.ref b202)])) rfl (hb hby at_301) (by decide) (by decide)
    obtain ⟨b220, g220⟩ : ∃ z, z = T211.heap.size := ⟨_, rfl⟩
    rw [← g220] at A220 D220 st220
    have ne_b2_b220 : b2 ≠ b220 := Nat.ne_of_lt (Nat.lt_of_lt_of_le f214.lt (Nat.le_of_eq g220.symm))
    have ne_b202_b220 : b202 ≠ b220 := Nat.ne_of_lt (Nat.lt_of_lt_of_le E211'.lt (Nat.le_of_eq g220.symm))
    have ne_b211_b220 : b211 ≠ b220 := Nat.ne_of_lt (Nat.lt_of_lt_of_le Vb211.lt (Nat.le_of_eq g220.symm))
    have g_b220 : n0 ≤ b220 := Nat.le_trans Z216 (Nat.le_of_eq g220.symm)
    have sz_b220 : h0.size ≤ b220 := Nat.le_trans KP217.1 (Nat.le_of_eq g220.symm)
    have f221 := f213.ext E220
    have f222 := f214.ext E220
    have f223 := E211'.ext E220
    have f224 := Fc211.ext E220
    have f225 := Fl211.ext E220
    have f226 := Vb211.ext E220
    have Z227 : n0 ≤ h220.size := Nat.le_trans Z216 E220.1
    have KP228 : Keep h0 h220 [] := KP217.ext E220
    have K229 : ∀ t, Steps p.tables e below (T220.setTop (mkF m 304 #[.val (.int p1), .val (.int p2), .val (.int p3), .val (.int p4), .val (.int p5), .val (.int p6), .val (.ref b2), .val (.int cp), .val (.int nv), .val (.int ix), .val (.int (0 : Int32)), .val (.int ((p6.toUInt32 >>> ((1 : Int32) &&& 31).toUInt32).toInt32)), .val (.int y1), .val (.int y2), .val (.int y3), .val (.int y4), .val (.int av), .val (.int t9), .val (.int ex), .val (.int (-t9)), .val (.ref b202)] [(.ref b220), (.ref b202)])) t → Steps p.tables e below G t := fun t k => K219 t (st220 t k)
    have f230 : Fld Z h220 b220 "java/lang/String" "coder" "B" (.int (0 : Int32)) := D220 (Or.inr (hw _ (List.mem_of_getElem? (i := 65) rfl))) (ty := .byte) (by decide)
    have f231 : Fld Z h220 b220 "java/lang/String" "value" "[B" .null := D220 (Or.inr (hw _ (List.mem_of_getElem? (i := 67) rfl))) (ty := (.array .byte)) (by decide)
    have K232 : ∀ t, Steps p.tables e below (T220.setTop (mkF m 307 #[.val (.int p1), .val (.int p2), .val (.int p3), .val (.int p4), .val (.int p5), .val (.int p6), .val (.ref b2), .val (.int cp), .val (.int nv), .val (.int ix), .val (.int (0 : Int32)), .val (.int ((p6.toUInt32 >>> ((1 : Int32) &&& 31).toUInt32).toInt32)), .val (.int y1), .val (.int y2), .val (.int y3), .val (.int y4), .val (.int av), .val (.int t9), .val (.int ex), .val (.int (-t9)), .val (.ref b202)] [(.ref b2), (.ref b220), (.ref b220), (.ref b202)])) t → Steps p.tables e below G t := by
      intro t k
      refine K229 t ?_
      refine XS.dup X220.here hx rfl (hb hby at_304) rfl rfl ?_
      refine XS.aload X220.here hx rfl (hb hby at_305) rfl rfl ?_
      exact k
    obtain ⟨_, _, ⟨T233, L233, kk233, nn233⟩, -, X233, ⟨Lc233, hQ233, lq233, yq233, zq233⟩, st233⟩ := X220.specialBack hx (y := (⟨"java/lang/String", "<init>", "([C)V"⟩ : MethodName)) rfl hown (mvT hZ (hw _ (List.mem_of_getElem? (i := 25) rfl))) (mvT hZ (hw _ (List.mem_of_getElem? (i := 26) rfl))) (mvT hZ (hw _ (List.mem_of_getElem? (i := 27) rfl))) (by decide) (backOf (W := 2) (rm5 l Z a0 hw [] b220 b2 kn2 ee0 ee1 ee2 ee3 cs fv h220 n0 Z227 A220 f231 f230 f222 (Ne.symm ne_b2_b220) g_b220 hr0 hr1 hr2 hr3 SC hcs SA SH SL SF hfv f221) hZ (hw _ (List.mem_of_getElem? (i := 27) rfl)) (hw _ (List.mem_of_getElem? (i := 24) rfl)) (by decide) (by decide)) (g := (mkF m 307 #[.val (.int p1), .val (.int p2), .val (.int p3), .val (.int p4), .val (.int p5), .val (.int p6), .val (.ref b2), .val (.int cp), .val (.int nv), .val (.int ix), .val (.int (0 : Int32)), .val (.int ((p6.toUInt32 >>> ((1 : Int32) &&& 31).toUInt32).toInt32)), .val (.int y1), .val (.int y2), .val (.int y3), .val (.int y4), .val (.int av), .val (.int t9), .val (.int ex), .val (.int (-t9)), .val (.ref b202)] [(.ref b2), (.ref b220), (.ref b220), (.ref b202)])) rfl (by rw [hml]; rfl) (Steps.refl _) (a := b220) (argsL := [(.ref b2)]) (rest := [(.ref b220), (.ref b202)]) (lenOf pd_26 rfl) rfl (by show 2 * 0 + _ ≤ _; exact Nat.le_of_eq rfl) (hb hby at_307) (fun _ _ => ⟨rfl, e220, (by decide : 4 + 2 ≤ _), (by decide : 18 + 12 ≤ _)⟩)
    dsimp only [Pt.U, Pt.locs, Pt.cells, Pt.slots] at X233 lq233 yq233 zq233 st233 hQ233
    subst lq233 yq233 zq233
    obtain ⟨b233, kb233, zb233, co233, vb233, rfl, Nq233, K233, sz233, E233', Fv233, Fc233, Vb233, hsp233⟩ := hQ233
    have N234 := Fr.app N212 Nq233
    have ne_b2_b233 : b2 ≠ b233 := Nat.ne_of_lt (Nat.lt_of_lt_of_le f222.lt sz233)
    have ne_b202_b233 : b202 ≠ b233 := Nat.ne_of_lt (Nat.lt_of_lt_of_le f223.lt sz233)
    have ne_b211_b233 : b211 ≠ b233 := Nat.ne_of_lt (Nat.lt_of_lt_of_le f226.lt sz233)
    have ne_b220_b233 : b220 ≠ b233 := Nat.ne_of_lt (Nat.lt_of_lt_of_le A220.lt sz233)
    have g_b233 : n0 ≤ b233 := Nat.le_trans Z227 sz233
    have sz_b233 : h0.size ≤ b233 := Nat.le_trans KP228.1 sz233
    have f235 := f221.keep K233 (allS g_b220 all0)
    have f236 := f222.keep K233 (ninS ne_b2_b220 nin0)
    have f237 := f223.keep K233
    have f238 := f224.keep K233 (ninS ne_b202_b220 nin0)
    have f239 := f225.keep K233 (ninS ne_b202_b220 nin0)
    have f240 := f226.keep K233 (ninS ne_b211_b220 nin0)
    have f241 := A220.keep K233
    have Z242 : n0 ≤ T233.heap.size := Nat.le_trans Z227 K233.1
    have KP243 : Keep h0 T233.heap [] := KP228.trans K233 (allS (Or.inr sz_b220) all0)
    have K244 : ∀ t, Steps p.tables e below (T233.setTop (mkF m 310 #[.val (.int p1), .val (.int p2), .val (.int p3), .val (.int p4), .val (.int p5), .val (.int p6), .val (.ref b2), .val (.int cp), .val (.int nv), .val (.int ix), .val (.int (0 : Int32)), .val (.int ((p6.toUInt32 >>> ((1 : Int32) &&& 31).toUInt32).toInt32)), .val (.int y1), .val (.int y2), .val (.int y3), .val (.int y4), .val (.int av), .val (.int t9), .val (.int ex), .val (.int (-t9)), .val (.ref b202)] [(.ref b220), (.ref b202)])) t → Steps p.tables e below G t := fun t k => K232 t (st233.trans k)
    obtain ⟨cq245, kq245, q245a, q245b, q245c⟩ := isOf hZ rfl f237
    obtain ⟨_, _, ⟨T245, L245, kk245, nn245⟩, -, X245, ⟨Lc245, hQ245, lq245, yq245, zq245⟩, st245⟩ := X233.virtualBack hx (y := (⟨"org/arborlog/pattern/LineText", "append", "(Ljava/lang/String;)Lorg/arborlog/pattern/LineText;"⟩ : MethodName)) (z := (⟨"org/arborlog/pattern/LineText", "append", "(Ljava/lang/String;)Lorg/arborlog/pattern/LineText;"⟩ : MethodName)) hown (mvT hZ (hw _ (List.mem_of_getElem? (i := 68) rfl))) (mvT hZ (hw _ (List.mem_of_getElem? (i := 69) rfl))) (notFace_of_selects (args := #[]) (mvT hZ (hw _ (List.mem_of_getElem? (i := 71) rfl)))) (mvT hZ (hw _ (List.mem_of_getElem? (i := 71) rfl))) (mvT hZ (hw _ (List.mem_of_getElem? (i := 70) rfl))) (by decide) (backOf (W := 0) (rm15 l Z a0 hw [] b202 b220 b211 kb211 cp [] b233 kb233 zb233 co233 vb233 ee0 ee1 ee2 ee3 cs fv T233.heap n0 Z242 f237 f238 f239 f240 E233' Fv233 Fc233 Vb233 hsp233 ne_b202_b211 ne_b202_b220 ne_b202_b233 (Ne.symm ne_b211_b220) (Ne.symm ne_b211_b233) g_b202 g_b211 hc7.1 hc7.2.2 hr0 hr1 hr2 hr3 SC hcs SA SH SL SF hfv f235) hZ (hw _ (List.mem_of_getElem? (i := 72) rfl)) (hw _ (List.mem_of_getElem? (i := 13) rfl)) (by decide) (by decide)) q245a q245c (g := (mkF m 310 #[.val (.int p1), .val (.int p2), .val (.int p3), .val (.int p4), .val (.int p5), .val (.int p6), .val (.ref b2), .val (.int cp), .val (.int nv), .val (.int ix), .val (.int (0 : Int32)), .val (.int ((p6.toUInt32 >>> ((1 : Int32) &&& 31).toUInt32).toInt32)), .val (.int y1), .val (.int y2), .val (.int y3), .val (.int y4), .val (.int av), .val (.int t9), .val (.int ex), .val (.int (-t9)), .val (.ref b202)] [(.ref b220), (.ref b202)])) rfl (by rw [hml]; rfl) (Steps.refl _) (argsL := [(.ref b220)]) (rest := []) (lenOf pd_27 rfl) rfl (by show 2 * 0 + _ ≤ _; exact Nat.le_of_eq rfl) (hb hby at_310) (fun _ _ => ⟨rfl, rfl, (by decide : 6 + 1 ≤ _), (by decide : 30 + 10 ≤ _)⟩)
    dsimp only [Pt.U, Pt.locs, Pt.cells, Pt.slots] at X245 lq245 yq245 zq245 st245 hQ245
    subst lq245 yq245 zq245
    obtain ⟨b245, kb245, zb245, vs245, rfl, Nq245, K245, ob245, E245', Fc245, Fl245, Vb245, hz245, ct245⟩ := hQ245
    have N246 := Fr.app N234 Nq245
    have gb245 : n0 ≤ b245 := ob245.elim (fun q => q ▸ g_b211) (fun q => Nat.le_trans Z242 q)
    have sz245 : h0.size ≤ b245 := ob245.elim (fun q => q ▸ sz_b211) (fun q => Nat.le_trans KP243.1 q)
    have ne_b2_b245 : b2 ≠ b245 := ob245.elim (fun q => q ▸ ne_b2_b211) (fun q => Nat.ne_of_lt (Nat.lt_of_lt_of_le f236.lt q))
    have ne_b202_b245 : b202 ≠ b245 := ob245.elim (fun q => q ▸ ne_b202_b211) (fun q => Nat.ne_of_lt (Nat.lt_of_lt_of_le f237.lt q))
    have ne_b220_b245 : b220 ≠ b245 := ob245.elim (fun q => q ▸ (Ne.symm ne_b211_b220)) (fun q => Nat.ne_of_lt (Nat.lt_of_lt_of_le E233'.lt q))
    have ne_b233_b245 : b233 ≠ b245 := ob245.elim (fun q => q ▸ (Ne.symm ne_b211_b233)) (fun q => Nat.ne_of_lt (Nat.lt_of_lt_of_le Vb233.lt q))
    have f247 := f235.keep K245 (allS g_b202 (allS g_b211 all0))
    have f248 := f236.keep K245 (ninS ne_b2_b202 (ninS ne_b2_b211 nin0))
    have f249 := f237.keep K245
    have f250 := E233'.keep K245
    have f251 := Fv233.keep K245 (ninS (Ne.symm ne_b202_b220) (ninS (Ne.symm ne_b211_b220) nin0))
    have f252 := Fc233.keep K245 (ninS (Ne.symm ne_b202_b220) (ninS (Ne.symm ne_b211_b220) nin0))
    have f253 := Vb233.keep K245 (ninS (Ne.symm ne_b202_b233) (ninS (Ne.symm ne_b211_b233) nin0))
    have Z254 : n0 ≤ T245.heap.size := Nat.le_trans Z242 K245.1
    have KP255 : Keep h0 T245.heap [] := KP243.trans K245 (allS (Or.inr sz_b202) (allS (Or.inr sz_b211) all0))
    have K256 : ∀ t, Steps p.tables e below (T245.setTop (mkF m 313 #[.val (.int p1), .val (.int p2), .val (.int p3), .val (.int p4), .val (.int p5), .val (.int p6), .val (.ref b2), .val (.int cp), .val (.int nv), .val (.int ix), .val (.int (0 : Int32)), .val (.int ((p6.toUInt32 >>> ((1 : Int32) &&& 31).toUInt32).toInt32)), .val (.int y1), .val (.int y2), .val (.int y3), .val (.int y4), .val (.int av), .val (.int t9), .val (.int ex), .val (.int (-t9)), .val (.ref b202)] [(.ref b202)])) t → Steps p.tables e below G t := fun t k => K244 t (st245.trans k)
    have K257 : ∀ t, Steps p.tables e below (T245.setTop (mkF m 318 #[.val (.int p1), .val (.int p2), .val (.int p3), .val (.int p4), .val (.int p5), .val (.int p6), .val (.ref b2), .val (.int cp), .val (.int nv), .val (.int ix), .val (.int (0 : Int32)), .val (.int ((p6.toUInt32 >>> ((1 : Int32) &&& 31).toUInt32).toInt32)), .val (.int y1), .val (.int y2), .val (.int y3), .val (.int y4), .val (.int av), .val (.int t9), .val (.int ex), .val (.int (-t9)), .val (.ref b202)] [(.int nv), (.ref b202)])) t → Steps p.tables e below G t := by
      intro t k
      refine K256 t ?_
      refine XS.pop X245.here hx rfl (hb hby at_313) rfl rfl ?_
      refine XS.aload X245.here hx rfl (hb hby at_314) rfl rfl ?_
      refine XS.iload X245.here hx rfl (hb hby at_316) rfl ?_
      exact k
    obtain ⟨cq258, kq258, q258a, q258b, q258c⟩ := isOf hZ rfl E245'
    obtain ⟨_, _, ⟨T258, L258, kk258, nn258⟩, -, X258, ⟨Lc258, hQ258, lq258, yq258, zq258⟩, st258⟩ := X245.virtualBack hx (y := (⟨"org/arborlog/pattern/LineText", "truncate", "(I)V"⟩ : MethodName)) (z := (⟨"org/arborlog/pattern/LineText", "truncate", "(I)V"⟩ : MethodName)) hown (mvT hZ (hw _ (List.mem_of_getElem? (i := 139) rfl))) (mvT hZ (hw _ (List.mem_of_getElem? (i := 140) rfl))) (notFace_of_selects (args := #[]) (mvT hZ (hw _ (List.mem_of_getElem? (i := 142) rfl)))) (mvT hZ (hw _ (List.mem_of_getElem? (i := 142) rfl))) (mvT hZ (hw _ (List.mem_of_getElem? (i := 141) rfl))) (by decide) (backOf (W := 0) (rm31 l Z a0 hw [] b202 nv b245 (4 : Int32) T245.heap n0 Z254 E245' Fc245 Fl245 g_b202) hZ (hw _ (List.mem_of_getElem? (i := 143) rfl)) (hw _ (List.mem_of_getElem? (i := 13) rfl)) (by decide) (by decide)) q258a q258c (g := (mkF m 318 #[.val (.int p1), .val (.int p2), .val (.int p3), .val (.int p4), .val (.int p5), .val (.int p6), .val (.ref b2), .val (.int cp), .val (.int nv), .val (.int ix), .val (.int (0 : Int32)), .val (.int ((p6.toUInt32 >>> ((1 : Int32) &&& 31).toUInt32).toInt32)), .val (.int y1), .val (.int y2), .val (.int y3), .val (.int y4), .val (.int av), .val (.int t9), .val (.int ex), .val (.int (-t9)), .val (.ref b202)] [(.int nv), (.ref b202)])) rfl (by rw [hml]; rfl) (Steps.refl _) (argsL := [(.int nv)]) (rest := []) (lenOf pd_20 rfl) rfl (by show 2 * 0 + _ ≤ _; exact Nat.le_of_eq rfl) (hb hby at_318) (fun _ _ => ⟨rfl, rfl, (by decide : 7 + 0 ≤ _), (by decide : 40 + 0 ≤ _)⟩)
    dsimp only [Pt.U, Pt.locs, Pt.cells, Pt.slots] at X258 lq258 yq258 zq258 st258 hQ258
    subst lq258 yq258 zq258
    obtain ⟨rfl, Nq258, K258, E258', Fc258, Fl258⟩ := hQ258
    have N259 := Fr.app N246 Nq258
    have f260 := f247.keep K258 (allS g_b202 all0)
    have f261 := f248.keep K258 (ninS ne_b2_b202 nin0)
    have f262 := E245'.keep K258
    have f263 := f250.keep K258
    have f264 := f251.keep K258 (ninS (Ne.symm ne_b202_b220) nin0)
    have f265 := f252.keep K258 (ninS (Ne.symm ne_b202_b220) nin0)
    have f266 := f253.keep K258 (ninS (Ne.symm ne_b202_b233) nin0)
    have f267 := Vb245.keep K258 (ninS (Ne.symm ne_b202_b245) nin0)
    have Z268 : n0 ≤ T258.heap.size := Nat.le_trans Z254 K258.1
    have KP269 : Keep h0 T258.heap [] := KP255.trans K258 (allS (Or.inr sz_b202) all0)
    have K270 : ∀ t, Steps p.tables e below (T258.setTop (mkF m 321 #[.val (.int p1), .val (.int p2), .val (.int p3), .val (.int p4), .val (.int p5), .val (.int p6), .val (.ref b2), .val (.int cp), .val (.int nv), .val (.int ix), .val (.int (0 : Int32)), .val (.int ((p6.toUInt32 >>> ((1 : Int32) &&& 31).toUInt32).toInt32)), .val (.int y1), .val (.int y2), .val (.int y3), .val (.int y4), .val (.int av), .val (.int t9), .val (.int ex), .val (.int (-t9)), .val (.ref b202)] [])) t → Steps p.tables e below G t := fun t k => K257 t (st258.trans k)
    obtain ⟨y0c, y1c, y2c, y3c⟩ := ct245
    have hf2 : ∀ j : Nat, j < 4 → vs245.getD j (Value.int (0 : Int32)) = .int ((fun j => ([ee0, ee1, ee2, ee3] : List Int32).getD j 0) j) := fun j hj => by
      match j, hj with
      | 0, _ => exact y0c
      | 1, _ => exact y1c
      | 2, _ => exact y2c
      | 3, _ => exact y3c
      | j + 4, h => exact absurd h (by omega)
    have hx0 : ¬ ix < 0 := by rw [Int32.lt_iff_toInt_lt]; have z0 : (0 : Int32).toInt = 0 := rfl; omega
    have hsel := own_sel (own_B (fun j => ([ee0, ee1, ee2, ee3] : List Int32).getD j 0)) h_y1 h_y2 h_y3 h_y4 hx0 hav ht h_ex
    have hrr := own_selB (own_B (fun j => ([ee0, ee1, ee2, ee3] : List Int32).getD j 0)) (own_F (fun j => ([ee0, ee1, ee2, ee3] : List Int32).getD j 0) nv) hsel (by omega)
    have K271 : ∀ t, Steps p.tables e below (T258.setTop (mkF m 327 #[.val (.int p1), .val (.int p2), .val (.int p3), .val (.int p4), .val (.int p5), .val (.int p6), .val (.ref b2), .val (.int cp), .val (.int nv), .val (.int ix), .val (.int (0 : Int32)), .val (.int ((p6.toUInt32 >>> ((1 : Int32) &&& 31).toUInt32).toInt32)), .val (.int y1), .val (.int y2), .val (.int y3), .val (.int y4), .val (.int av), .val (.int t9), .val (.int ex), .val (.int (-t9)), .val (.ref b202)] [(.int (-t9)), (.int ix), (.ref b202)])) t → Steps p.tables e below G t := by
      intro t k
      refine K270 t ?_
      refine XS.aload X258.here hx rfl (hb hby at_321) rfl rfl ?_
      refine XS.iload X258.here hx rfl (hb hby at_323) rfl ?_
      refine XS.iload X258.here hx rfl (hb hby at_325) rfl ?_
      exact k
    obtain ⟨cq272, kq272, q272a, q272b, q272c⟩ := isOf hZ rfl E258'
    obtain ⟨_, _, ⟨T272, L272, kk272, nn272⟩, -, X272, ⟨Lc272, hQ272, lq272, yq272, zq272⟩, st272⟩ := X258.virtualBack hx (y := (⟨"org/arborlog/pattern/LineText", "offsetByCodePoints", "(II)I"⟩ : MethodName)) (z := (⟨"org/arborlog/pattern/LineText", "offsetByCodePoints", "(II)I"⟩ : MethodName)) hown (mvT hZ (hw _ (List.mem_of_getElem? (i := 144) rfl))) (mvT hZ (hw _ (List.mem_of_getElem? (i := 145) rfl))) (notFace_of_selects (args := #[]) (mvT hZ (hw _ (List.mem_of_getElem? (i := 147) rfl)))) (mvT hZ (hw _ (List.mem_of_getElem? (i := 147) rfl))) (mvT hZ (hw _ (List.mem_of_getElem? (i := 146) rfl))) (by decide) (backOf (W := 0) (rm32 l Z a0 hw [] b202 ix (-t9) b245 nv kb245 zb245 vs245 (fun j => ([ee0, ee1, ee2, ee3] : List Int32).getD j 0) ex T258.heap n0 Z268 Fc258 Fl258 f267 hf2 hz245.1 hn4 hix hrr) hZ (hw _ (List.mem_of_getElem? (i := 148) rfl)) (hw _ (List.mem_of_getElem? (i := 13) rfl)) (by decide) (by decide)) q272a q272c (g := (mkF m 327 #[.val (.int p1), .val (.int p2), .val (.int p3), .val (.int p4), .val (.int p5), .val (.int p6), .val (.ref b2), .val (.int cp), .val (.int nv), .val (.int ix), .val (.int (0 : Int32)), .val (.int ((p6.toUInt32 >>> ((1 : Int32) &&& 31).toUInt32).toInt32)), .val (.int y1), .val (.int y2), .val (.int y3), .val (.int y4), .val (.int av), .val (.int t9), .val (.int ex), .val (.int (-t9)), .val (.ref b202)] [(.int (-t9)), (.int ix), (.ref b202)])) rfl (by rw [hml]; rfl) (Steps.refl _) (argsL := [(.int ix), (.int (-t9))]) (rest := []) (lenOf pd_0 rfl) rfl (by show 2 * 0 + _ ≤ _; exact Nat.le_of_eq rfl) (hb hby at_327) (fun _ _ => ⟨rfl, rfl, (by decide : 7 + 0 ≤ _), (by decide : 40 + 0 ≤ _)⟩)
    dsimp only [Pt.U, Pt.locs, Pt.cells, Pt.slots] at X272 lq272 yq272 zq272 st272 hQ272
    subst lq272 yq272 zq272
    obtain ⟨rfl, Nq272, e272⟩ := hQ272
    have N273 := Fr.app N259 Nq272
    have K274 : ∀ t, Steps p.tables e below (T272.setTop (mkF m 330 #[.val (.int p1), .val (.int p2), .val (.int p3), .val (.int p4), .val (.int p5), .val (.int p6), .val (.ref b2), .val (.int cp), .val (.int nv), .val (.int ix), .val (.int (0 : Int32)), .val (.int ((p6.toUInt32 >>> ((1 : Int32) &&& 31).toUInt32).toInt32)), .val (.int y1), .val (.int y2), .val (.int y3), .val (.int y4), .val (.int av), .val (.int t9), .val (.int ex), .val (.int (-t9)), .val (.ref b202)] [(.int ex)])) t → Steps p.tables e below G t := fun t k => K271 t (st272.trans k)
    obtain ⟨fs, hr, hrun, hended, hW, hsame⟩ := X272.leave (v := some (.int (1 : Int32))) (fun h => by rw [Bd.returns] at h; cases h)
    have KF := K274
    rw [hG] at KF
    refine ⟨_, _, KF _ ?_, hrun, hended, _, _, rfl, ?_, ⟨_, rfl⟩, hW, hsame.mono (by decide) (by decide)⟩
    · refine XS.iload X272.here hx rfl (hb hby at_330) rfl ?_
      refine XS.icmpNo X272.here hx rfl (hb hby at_332) rfl (teq (rfl : ex = ex)).2 ?_
      refine XS.iconst X272.here hx rfl (hb hby at_335) ?_
      refine XS.goto X272.here hx rfl (pc0 := 336) (pc' := 340) rfl (hb hby at_336) (by decide) (by decide) ?_
      show Steps p.tables e below (T272.setTop (mkF m 340 #[.val (.int p1), .val (.int p2), .val (.int p3), .val (.int p4), .val (.int p5), .val (.int p6), .val (.ref b2), .val (.int cp), .val (.int nv), .val (.int ix), .val (.int (0 : Int32)), .val (.int ((p6.toUInt32 >>> ((1 : Int32) &&& 31).toUInt32).toInt32)), .val (.int y1), .val (.int y2), .val (.int y3), .val (.int y4), .val (.int av), .val (.int t9), .val (.int ex), .val (.int (-t9)), .val (.ref b202)] [(.int (1 : Int32))])) _
      exact retN X272 hx (t := .boolean) Bd.returns (by simp) (hb hby at_340) hr
    · show Q0 n0 _ T272.heap _
      rw [e272]
      exact ⟨rfl, N273⟩
set_option maxRecDepth 65536 in
set_option maxHeartbeats 40000000 in
theorem comes_1 {Post : Tables → Env → Array Value → State → Outcome → State → Prop} (hpost : ∀ tb e args s v u, (limb_1_1.after args s (.returned v) u = true ∧ limb_1_2.after args s (.returned v) u = true ∧ True) → FrameEnd s (.returned v) u (Jvm.fieldLocs frame_1_writes args s ++ Jvm.arrayLocs frame_1_arrays args s ++ Jvm.staticLocs frame_1_statics s) 24 128 → Post tb e args s (.returned v) u) :
    ArmFor flags0 classFile x code maxLocals ret World_1 tables_1 room_1 Calls_1 rest_1 Pre_1 Post := by
  intro l hfl _ _ p e ha hc hk s m args below hf hA hF happ hP
  obtain ⟨hcalls, hrest, hpre⟩ := hP
  obtain ⟨-, -, -, hnamed, -, -, -, hat⟩ := (Spec.applies_iff hf).mp happ
  obtain ⟨hg, hn⟩ := and_e (Cond.before_iff.mp (show (Jvm.Cond.and given_1 narrow_1).before args s = true from hpre))
  obtain ⟨gc, gr0⟩ := and_e hg
  obtain ⟨ga0, gr1⟩ := and_e gr0
  obtain ⟨ga1, gr2⟩ := and_e gr1
  obtain ⟨ga2, gr3⟩ := and_e gr2
  obtain ⟨ga3, gr4⟩ := and_e gr3
  obtain ⟨ga4, gr5⟩ := and_e gr4
  have ga5 := gr5
  obtain ⟨w0, w1, w2, w3, w4, w5, rfl⟩ : ∃ w0 w1 w2 w3 w4 w5 : Value, args = #[w0, w1, w2, w3, w4, w5] := by
    have hs : args.size = 6 := by simpa [Cond.value, given_1] using gc
    obtain ⟨L⟩ := args
    match L, hs with
    | [w0, w1, w2, w3, w4, w5], _ => exact ⟨w0, w1, w2, w3, w4, w5, rfl⟩
  have hw := fun d (hd : d ∈ tables_1) => atoms_spec (ws := Jvm.Cond.code x code maxLocals ret :: tables_1) hat d (List.mem_cons_of_mem _ hd)
  have hfit : Fit s := fun {y c} hc i hi => by
    obtain ⟨ha, rfl⟩ := Array.getElem?_eq_some_iff.mp hc
    have q := List.all_eq_true.mp ((Array.all_eq_true_iff_forall_mem.mp hF) _ (Array.getElem_mem ha)) i (List.mem_range.mpr hi)
    simpa [Array.getElem?_eq_getElem hi] using q
  obtain ⟨i0, ei0⟩ := is_v ga0
  obtain rfl : w0 = (.int i0) := Option.some.inj ei0
  obtain ⟨i1, ei1⟩ := is_v ga1
  obtain rfl : w1 = (.int i1) := Option.some.inj ei1
  obtain ⟨i2, ei2⟩ := is_v ga2
  obtain rfl : w2 = (.int i2) := Option.some.inj ei2
  obtain ⟨i3, ei3⟩ := is_v ga3
  obtain rfl : w3 = (.int i3) := Option.some.inj ei3
  obtain ⟨i4, ei4⟩ := is_v ga4
  obtain rfl : w4 = (.int i4) := Option.some.inj ei4
  obtain ⟨i5, ei5⟩ := is_v ga5
  obtain rfl : w5 = (.int i5) := Option.some.inj ei5
  obtain ⟨hsets, hown0⟩ := atoms_of _ (rest_1_c_eq ▸ (show rest_1_c.before _ s = true from hrest))
  obtain ⟨cs, evc⟩ := is_v (Cond.before_iff.mp (hsets _ (List.mem_of_getElem? (i := 1) rfl)))
  have SC := Sta.start evc (Or.inl (hsets _ (List.mem_of_getElem? (i := 0) rfl)))
  have hcs : ¬ cs = 0 := gotF (Cond.eq_ints evc rfl) (not_v (r := true) (Cond.before_iff.mp (hsets _ (List.mem_of_getElem? (i := 2) rfl))))
  have SA : Sta s s.heap "java/lang/StringUTF16" "$assertionsDisabled" "Z" (.int (1 : Int32)) := Sta.start (Cond.eq_int (hsets _ (List.mem_of_getElem? (i := 12) rfl)) rfl) (Or.inl (hsets _ (List.mem_of_getElem? (i := 11) rfl)))
  have SH : Sta s s.heap "java/lang/StringUTF16" "HI_BYTE_SHIFT" "I" (.int (0 : Int32)) := Sta.start (Cond.eq_int (hsets _ (List.mem_of_getElem? (i := 15) rfl)) rfl) (Or.inl (hsets _ (List.mem_of_getElem? (i := 14) rfl)))
  have SL : Sta s s.heap "java/lang/StringUTF16" "LO_BYTE_SHIFT" "I" (.int (8 : Int32)) := Sta.start (Cond.eq_int (hsets _ (List.mem_of_getElem? (i := 18) rfl)) rfl) (Or.inl (hsets _ (List.mem_of_getElem? (i := 17) rfl)))
  obtain ⟨fv, evf, hfr⟩ := isR_v (Cond.before_iff.mp (hsets _ (List.mem_of_getElem? (i := 8) rfl)))
  have SF := Sta.start evf (Or.inl (hsets _ (List.mem_of_getElem? (i := 7) rfl)))
  have hfv : fv = .null ∨ ∃ a, fv = .ref a := by cases fv <;> first | exact Or.inl rfl | exact Or.inr ⟨_, rfl⟩ | exact absurd hfr (by decide) | cases hfr
  obtain ⟨n, o, h1, h2, h3, _, L, rfl, ⟨rfl, N⟩, hq⟩ := rm0 l s _ hw tables_1 i0 i1 i2 i3 i4 i5 cs fv s.heap s.heap.size (Nat.le_refl _) SC hcs SA SH SL SF hfv (Old.start s) p e ha hc hk s m _ below hf ((Spec.applies_iff_loose hf).mp happ).1 ⟨rfl, State.Warmed39.refl s, rfl⟩ trivial
  refine ⟨n, _, h1, h2, h3, hpost _ _ _ _ _ _ ⟨Cond.after_iff.mpr rfl, Cond.after_iff.mpr (eq_i res_at (Term.int_eval (1)) rfl), trivial⟩ ⟨hq.1, hq.2.1, (hq.2.2.sift fun y hy => Or.inr (N y hy)).mono (by decide) (by decide)⟩⟩
theorem main_1_1 : Claimed_1_1 := comes_1 fun _ _ _ _ _ _ h hF => ⟨h.1, hF⟩
theorem main_1_2 : Claimed_1_2 := comes_1 fun _ _ _ _ _ _ h hF => ⟨h.2.1, hF⟩
end Jvm.Pilot.@@N@@
namespace Jvm.Pilot.@@N@@
open Jvm Jvm.ClassFile Sem Op Lib Jvm.Free Jvm.Stand Jvm.Pilot.@@N@@.Jvm.D
/-! MADE BY PROGRAM (witnessworld.py) out of the Statement's table words and the real class files: 24 classes; the members and pool entries that the words name. The judged class is class 1, her method 1. -/
namespace start1
open Jvm.ClassFile
def u (s : String) : CpInfo := .utf8 (stringToUtf16 s)
/-- a pool by its gaps: so many unusable entries, then the entry; so many at the end -/
def gap : Nat → List CpInfo → List CpInfo
  | 0, r => r
  | n + 1, r => .unusable :: gap n r
def poolList (es : List (Nat × CpInfo)) (last : Nat) : List CpInfo := es.foldr (fun e r => gap e.1 (e.2 :: r)) (gap last [])
def pool (es : List (Nat × CpInfo)) (last : Nat) : Array CpInfo := ⟨poolList es last⟩
def fileOf (pool : Array CpInfo) (this : Nat) (attrs : Array Attribute := #[]) (ms : Array MethodInfo := #[]) (fl : Nat := 33) (sup : Nat := 0) (ifs : Array Nat := #[]) (fds : Array FieldInfo := #[]) : ClassFile where
  minorVersion := 0
  majorVersion := 65
  constantPool := pool
  accessFlags := fl
  thisClass := this
  superClass := sup
  interfaces := ifs
  fields := fds
  methods := ms
  attributes := attrs
def plain (name : String) (sup : Option ClassId) : Class where
  name := name
  kind := .ordinary
  loader := none
  accessFlags := 33
  super := sup
  interfaces := #[]
  cf := none
  fields := #[]
  methods := #[]
  instanceTypes := #[]
  staticTypes := #[]
  resolved := #[]
  callSites := []
  init := .initialized
  statics := none
  mirror := none

def pool0 : Array CpInfo := pool [(5, u "<init>"), (0, u "()V"), (1, .class_ 10), (1, u "java/lang/Object")] 113

def k0c0 : Code := { maxStack := 0, maxLocals := 1, code := object_method_1_code, exceptionTable := #[], attributes := #[] }
def k0m0 : Method := { name := "<init>", desc := "()V", sig := { parameters := [], returnType := none }, accessFlags := 1, code := some k0c0 }
/-- java/lang/Object -/
def k0 : Class := { plain "java/lang/Object" none with
  accessFlags := 33
  interfaces := #[]
  cf := some (fileOf pool0 8 #[] #[{ accessFlags := 1, nameIndex := 5, descriptorIndex := 6, attributes := #[] }] 33 0 #[] #[])
  fields := #[]
  methods := #[k0m0]
  instanceTypes := #[]
  staticTypes := #[]
  resolved := Array.replicate 124 none
  statics := none }

def pool1 : Array CpInfo := pool [(2, .class_ 4), (1, u "java/lang/Object"), (0, u "<init>"), (0, u "()V"), (0, .methodref 8 9), (0, .class_ 10), (0, .nameAndType 11 12), (0, u "org/arborlog/pattern/LineTextOffsetByCodePointsPinLaw"), (0, u "mk"), (0, u "(I)C"), (0, .methodref 8 14), (0, .nameAndType 15 16), (0, u "fwd"), (0, u "([CII)I"), (0, .methodref 8 18), (0, .nameAndType 19 20), (0, u "back"), (0, u "([CI)I"), (0, .class_ 22), (0, u "org/arborlog/pattern/LineText"), (0, .methodref 21 24), (0, .nameAndType 5 25), (0, u "(I)V"), (0, .class_ 27), (0, u "java/lang/String"), (0, .methodref 26 29), (0, .nameAndType 5 30), (0, u "([C)V"), (0, .methodref 21 32), (0, .nameAndType 33 34), (0, u "append"), (0, u "(Ljava/lang/String;)Lorg/arborlog/pattern/LineText;"), (0, .methodref 21 36), (0, .nameAndType 37 25), (0, u "truncate"), (0, .methodref 21 39), (0, .nameAndType 40 41), (0, u "offsetByCodePoints"), (0, u "(II)I"), (0, .integer 55296), (0, .integer 56320), (0, .integer 65535), (0, .integer 56319), (0, .integer 57343), (0, .methodref 8 48), (0, .nameAndType 49 50), (0, u "isHigh"), (0, u "(C)Z"), (0, .methodref 8 52), (0, .nameAndType 53 50), (0, u "isLow"), (2, u "law"), (0, u "(IIIIII)Z")] 5

def k1m0 : Method := { name := "<init>", desc := "()V", sig := { parameters := [], returnType := none }, accessFlags := 2, code := none }
def k1c1 : Code := { maxStack := 4, maxLocals := 21, code := code, exceptionTable := #[], attributes := #[] }
def k1m1 : Method := { name := "law", desc := "(IIIIII)Z", sig := { parameters := [.int, .int, .int, .int, .int, .int], returnType := some .boolean }, accessFlags := 9, code := some k1c1 }
def k1c2 : Code := { maxStack := 2, maxLocals := 3, code := method_3_code, exceptionTable := #[], attributes := #[] }
def k1m2 : Method := { name := "mk", desc := "(I)C", sig := { parameters := [.int], returnType := some .char }, accessFlags := 10, code := some k1c2 }
def k1c3 : Code := { maxStack := 2, maxLocals := 1, code := method_4_code, exceptionTable := #[], attributes := #[] }
def k1m3 : Method := { name := "isHigh", desc := "(C)Z", sig := { parameters := [.char], returnType := some .boolean }, accessFlags := 10, code := some k1c3 }
def k1c4 : Code := { maxStack := 2, maxLocals := 1, code := method_5_code, exceptionTable := #[], attributes := #[] }
def k1m4 : Method := { name := "isLow", desc := "(C)Z", sig := { parameters := [.char], returnType := some .boolean }, accessFlags := 10, code := some k1c4 }
def k1c5 : Code := { maxStack := 3, maxLocals := 3, code := method_6_code, exceptionTable := #[], attributes := #[] }
def k1m5 : Method := { name := "fwd", desc := "([CII)I", sig := { parameters := [(.array .char), .int, .int], returnType := some .int }, accessFlags := 10, code := some k1c5 }
def k1c6 : Code := { maxStack := 3, maxLocals := 2, code := method_7_code, exceptionTable := #[], attributes := #[] }
def k1m6 : Method := { name := "back", desc := "([CI)I", sig := { parameters := [(.array .char), .int], returnType := some .int }, accessFlags := 10, code := some k1c6 }
/-- org/arborlog/pattern/LineTextOffsetByCodePointsPinLaw -/
def k1 : Class := { plain "org/arborlog/pattern/LineTextOffsetByCodePointsPinLaw" (some 0) with
  accessFlags := 49
  interfaces := #[]
  cf := some (fileOf pool1 8 #[] #[{ accessFlags := 2, nameIndex := 5, descriptorIndex := 6, attributes := #[] }, { accessFlags := 9, nameIndex := 56, descriptorIndex := 57, attributes := #[] }, { accessFlags := 10, nameIndex := 11, descriptorIndex := 12, attributes := #[] }, { accessFlags := 10, nameIndex := 49, descriptorIndex := 50, attributes := #[] }, { accessFlags := 10, nameIndex := 53, descriptorIndex := 50, attributes := #[] }, { accessFlags := 10, nameIndex := 15, descriptorIndex := 16, attributes := #[] }, { accessFlags := 10, nameIndex := 19, descriptorIndex := 20, attributes := #[] }] 49 2 #[] #[])
  fields := #[]
  methods := #[k1m0, k1m1, k1m2, k1m3, k1m4, k1m5, k1m6]
  instanceTypes := #[]
  staticTypes := #[]
  resolved := Array.replicate 63 none
  statics := none }

def pool2 : Array CpInfo := pool [(1, .methodref 2 3), (0, .class_ 4), (0, .nameAndType 5 6), (0, u "java/lang/Object"), (0, u "<init>"), (0, u "()V"), (0, .fieldref 8 9), (0, .class_ 10), (0, .nameAndType 11 12), (0, u "org/arborlog/pattern/LineText"), (0, u "chars"), (0, u "[C"), (0, .fieldref 8 14), (0, .nameAndType 15 16), (0, u "length"), (0, u "I"), (2, .methodref 20 21), (0, .class_ 22), (0, .nameAndType 15 23), (0, u "java/lang/String"), (0, u "()I"), (0, .methodref 8 25), (0, .nameAndType 26 27), (0, u "ensureCapacity"), (0, u "(I)V"), (0, .methodref 20 29), (0, .nameAndType 30 31), (0, u "getChars"), (0, u "(II[CI)V"), (8, u "append"), (0, u "(Ljava/lang/String;)Lorg/arborlog/pattern/LineText;"), (7, .class_ 51), (1, u "java/lang/Character"), (2, .methodref 49 55), (0, .nameAndType 56 57), (0, u "offsetByCodePoints"), (0, u "([CIIII)I"), (7, .methodref 66 67), (0, .class_ 68), (0, .nameAndType 69 70), (0, u "java/lang/Math"), (0, u "max"), (0, u "(II)I"), (0, .methodref 72 73), (0, .class_ 74), (0, .nameAndType 75 76), (0, u "java/util/Arrays"), (0, u "copyOf"), (0, u "([CI)[C"), (11, u "truncate")] 8

def k2c0 : Code := { maxStack := 2, maxLocals := 2, code := prog_20_method_1_code, exceptionTable := #[], attributes := #[] }
def k2m0 : Method := { name := "<init>", desc := "(I)V", sig := { parameters := [.int], returnType := none }, accessFlags := 1, code := some k2c0 }
def k2c1 : Code := { maxStack := 5, maxLocals := 4, code := prog_20_method_6_code, exceptionTable := #[], attributes := #[] }
def k2m1 : Method := { name := "append", desc := "(Ljava/lang/String;)Lorg/arborlog/pattern/LineText;", sig := { parameters := [(.object "java/lang/String")], returnType := some (.object "org/arborlog/pattern/LineText") }, accessFlags := 1, code := some k2c1 }
def k2c2 : Code := { maxStack := 2, maxLocals := 2, code := prog_20_method_9_code, exceptionTable := #[], attributes := #[] }
def k2m2 : Method := { name := "truncate", desc := "(I)V", sig := { parameters := [.int], returnType := none }, accessFlags := 0, code := some k2c2 }
def k2c3 : Code := { maxStack := 5, maxLocals := 3, code := prog_20_method_13_code, exceptionTable := #[], attributes := #[] }
def k2m3 : Method := { name := "offsetByCodePoints", desc := "(II)I", sig := { parameters := [.int, .int], returnType := some .int }, accessFlags := 0, code := some k2c3 }
def k2c4 : Code := { maxStack := 5, maxLocals := 2, code := prog_20_method_14_code, exceptionTable := #[], attributes := #[] }
def k2m4 : Method := { name := "ensureCapacity", desc := "(I)V", sig := { parameters := [.int], returnType := none }, accessFlags := 2, code := some k2c4 }
/-- org/arborlog/pattern/LineText -/
def k2 : Class := { plain "org/arborlog/pattern/LineText" (some 0) with
  accessFlags := 49
  interfaces := #[]
  cf := some (fileOf pool2 8 #[] #[{ accessFlags := 1, nameIndex := 5, descriptorIndex := 27, attributes := #[] }, { accessFlags := 1, nameIndex := 40, descriptorIndex := 41, attributes := #[] }, { accessFlags := 0, nameIndex := 88, descriptorIndex := 27, attributes := #[] }, { accessFlags := 0, nameIndex := 56, descriptorIndex := 70, attributes := #[] }, { accessFlags := 2, nameIndex := 26, descriptorIndex := 27, attributes := #[] }] 49 2 #[] #[{ accessFlags := 2, nameIndex := 11, descriptorIndex := 12, attributes := #[] }, { accessFlags := 2, nameIndex := 15, descriptorIndex := 16, attributes := #[] }])
  fields := #[{ name := "chars", type := (.array .char), accessFlags := 2, slot := 0, constantValue := 0 }, { name := "length", type := .int, accessFlags := 2, slot := 1, constantValue := 0 }]
  methods := #[k2m0, k2m1, k2m2, k2m3, k2m4]
  instanceTypes := #[(.array .char), .int]
  staticTypes := #[]
  resolved := Array.replicate 97 none
  statics := none }

def pool3 : Array CpInfo := pool [(1, .class_ 2), (0, u "java/io/Serializable"), (0, .class_ 4), (0, u "java/lang/Object")] 2

/-- java/io/Serializable -/
def k3 : Class := { plain "java/io/Serializable" (some 0) with
  accessFlags := 1537
  interfaces := #[]
  cf := some (fileOf pool3 1 #[] #[] 1537 3 #[] #[])
  fields := #[]
  methods := #[]
  instanceTypes := #[]
  staticTypes := #[]
  resolved := Array.replicate 7 none
  statics := none }

def pool4 : Array CpInfo := pool [(1, .class_ 2), (0, u "java/lang/Comparable"), (0, .class_ 4), (0, u "java/lang/Object")] 7

/-- java/lang/Comparable -/
def k4 : Class := { plain "java/lang/Comparable" (some 0) with
  accessFlags := 1537
  interfaces := #[]
  cf := some (fileOf pool4 1 #[] #[] 1537 3 #[] #[])
  fields := #[]
  methods := #[]
  instanceTypes := #[]
  staticTypes := #[]
  resolved := Array.replicate 12 none
  statics := none }

def pool5 : Array CpInfo := pool [(2, .class_ 4), (1, u "java/lang/CharSequence"), (42, .class_ 48), (0, u "java/lang/CharSequence$1CodePointIterator"), (10, .class_ 60), (0, u "java/lang/CharSequence$1CharIterator"), (5, .class_ 67), (0, u "java/lang/Object")] 63

/-- java/lang/CharSequence -/
def k5 : Class := { plain "java/lang/CharSequence" (some 0) with
  accessFlags := 1537
  interfaces := #[]
  cf := some (fileOf pool5 2 #[.nestMembers #[47, 59]] #[] 1537 66 #[] #[])
  fields := #[]
  methods := #[]
  instanceTypes := #[]
  staticTypes := #[]
  resolved := Array.replicate 131 none
  statics := none }

def pool6 : Array CpInfo := pool [(1, .class_ 2), (0, u "java/lang/constant/Constable"), (0, .class_ 4), (0, u "java/lang/Object")] 6

/-- java/lang/constant/Constable -/
def k6 : Class := { plain "java/lang/constant/Constable" (some 0) with
  accessFlags := 1537
  interfaces := #[]
  cf := some (fileOf pool6 1 #[] #[] 1537 3 #[] #[])
  fields := #[]
  methods := #[]
  instanceTypes := #[]
  staticTypes := #[]
  resolved := Array.replicate 11 none
  statics := none }

def pool7 : Array CpInfo := pool [(1, .class_ 2), (0, u "java/lang/constant/ConstantDesc"), (0, .class_ 4), (0, u "java/lang/Object")] 32

/-- java/lang/constant/ConstantDesc -/
def k7 : Class := { plain "java/lang/constant/ConstantDesc" (some 0) with
  accessFlags := 1537
  interfaces := #[]
  cf := some (fileOf pool7 1 #[] #[] 1537 3 #[] #[])
  fields := #[]
  methods := #[]
  instanceTypes := #[]
  staticTypes := #[]
  resolved := Array.replicate 37 none
  statics := none }

def pool8 : Array CpInfo := pool [(1, .methodref 2 3), (0, .class_ 4), (0, .nameAndType 5 6), (0, u "java/lang/Object"), (0, u "<init>"), (0, u "()V"), (2, .fieldref 10 11), (0, .class_ 12), (0, .nameAndType 13 14), (0, u "java/lang/String"), (0, u "value"), (0, u "[B"), (0, .fieldref 10 16), (0, .nameAndType 17 18), (0, u "coder"), (0, u "B"), (2, u "hash"), (0, u "I"), (2, u "hashIsZero"), (0, u "Z"), (0, .methodref 10 28), (0, .nameAndType 5 29), (0, u "([CIILjava/lang/Void;)V"), (4, .methodref 10 35), (0, .nameAndType 36 37), (0, u "checkBoundsOffCount"), (0, u "(III)I"), (0, .fieldref 10 39), (0, .nameAndType 40 26), (0, u "COMPACT_STRINGS"), (1, .class_ 44), (1, u "java/lang/StringUTF16"), (0, u "compress"), (1, .methodref 42 48), (0, .nameAndType 49 50), (0, u "coderFromArrayLen"), (0, u "([BI)B"), (56, .class_ 109), (1, u "java/lang/StringLatin1"), (32, u "()Z"), (34, .methodref 42 178), (0, .nameAndType 45 179), (0, u "([CII)[B"), (154, u "()I"), (0, .methodref 10 336), (0, .nameAndType 17 337), (0, u "()B"), (154, .methodref 10 493), (0, .nameAndType 494 142), (0, u "isLatin1"), (10, .methodref 10 506), (0, .nameAndType 507 334), (0, u "length"), (5, u "checkFromToIndex"), (7, .methodref 10 522), (0, .nameAndType 523 524), (0, u "checkBoundsBeginEnd"), (0, u "(III)V"), (0, .methodref 107 526), (0, .nameAndType 527 528), (0, u "getChars"), (0, u "([BII[CI)V"), (0, .methodref 42 526), (45, .class_ 576), (0, u "java/lang/CharSequence"), (22, u "CASE_INSENSITIVE_ORDER"), (0, u "Ljava/util/Comparator;"), (409, u "([C)V"), (42, .fieldref 1054 1055), (0, .class_ 1056), (0, .nameAndType 1057 1058), (0, u "jdk/internal/util/Preconditions"), (0, u "SIOOBE_FORMATTER"), (0, u "Ljava/util/function/BiFunction;"), (3, .methodref 1054 1063), (0, .nameAndType 513 1064), (0, u "(IIILjava/util/function/BiFunction;)I"), (0, .methodref 1054 1066), (0, .nameAndType 1067 1064), (0, u "checkFromIndexSize"), (33, u "serialPersistentFields"), (0, u "[Ljava/io/ObjectStreamField;"), (0, .class_ 1104), (0, u "java/lang/String$CaseInsensitiveComparator"), (1, .class_ 1107), (0, u "java/io/Serializable"), (0, .class_ 1109), (0, u "java/lang/Comparable"), (0, .class_ 1111), (0, u "java/lang/constant/Constable"), (0, .class_ 1113), (0, u "java/lang/constant/ConstantDesc"), (2, u "serialVersionUID"), (0, u "J"), (3, u "REPL"), (0, u "C"), (2, u "LATIN1"), (1, u "UTF16"), (112, u "(II[CI)V")] 210

def k8m0 : Method := { name := "<init>", desc := "()V", sig := { parameters := [], returnType := none }, accessFlags := 1, code := none }
def k8c1 : Code := { maxStack := 5, maxLocals := 2, code := jdk_42_method_3_code, exceptionTable := #[], attributes := #[] }
def k8m1 : Method := { name := "<init>", desc := "([C)V", sig := { parameters := [(.array .char)], returnType := none }, accessFlags := 1, code := some k8c1 }
def k8c2 : Code := { maxStack := 2, maxLocals := 1, code := jdk_42_method_54_code, exceptionTable := #[], attributes := #[] }
def k8m2 : Method := { name := "length", desc := "()I", sig := { parameters := [], returnType := some .int }, accessFlags := 1, code := some k8c2 }
def k8c3 : Code := { maxStack := 5, maxLocals := 5, code := jdk_42_method_61_code, exceptionTable := #[], attributes := #[] }
def k8m3 : Method := { name := "getChars", desc := "(II[CI)V", sig := { parameters := [.int, .int, (.array .char), .int], returnType := none }, accessFlags := 1, code := some k8c3 }
def k8c4 : Code := { maxStack := 4, maxLocals := 6, code := jdk_42_method_149_code, exceptionTable := #[], attributes := #[] }
def k8m4 : Method := { name := "<init>", desc := "([CIILjava/lang/Void;)V", sig := { parameters := [(.array .char), .int, .int, (.object "java/lang/Void")], returnType := none }, accessFlags := 2, code := some k8c4 }
def k8c5 : Code := { maxStack := 1, maxLocals := 1, code := jdk_42_method_152_code, exceptionTable := #[], attributes := #[] }
def k8m5 : Method := { name := "coder", desc := "()B", sig := { parameters := [], returnType := some .byte }, accessFlags := 0, code := some k8c5 }
def k8c6 : Code := { maxStack := 1, maxLocals := 1, code := jdk_42_method_154_code, exceptionTable := #[], attributes := #[] }
def k8m6 : Method := { name := "isLatin1", desc := "()Z", sig := { parameters := [], returnType := some .boolean }, accessFlags := 0, code := some k8c6 }
def k8c7 : Code := { maxStack := 4, maxLocals := 3, code := jdk_42_method_157_code, exceptionTable := #[], attributes := #[] }
def k8m7 : Method := { name := "checkBoundsOffCount", desc := "(III)I", sig := { parameters := [.int, .int, .int], returnType := some .int }, accessFlags := 8, code := some k8c7 }
def k8c8 : Code := { maxStack := 4, maxLocals := 3, code := jdk_42_method_158_code, exceptionTable := #[], attributes := #[] }
def k8m8 : Method := { name := "checkBoundsBeginEnd", desc := "(III)V", sig := { parameters := [.int, .int, .int], returnType := none }, accessFlags := 8, code := some k8c8 }
/-- java/lang/String -/
def k8 : Class := { plain "java/lang/String" (some 0) with
  accessFlags := 49
  interfaces := #[3, 4, 5, 6, 7]
  cf := some (fileOf pool8 10 #[.nestMembers #[1103]] #[{ accessFlags := 1, nameIndex := 5, descriptorIndex := 6, attributes := #[] }, { accessFlags := 1, nameIndex := 5, descriptorIndex := 1010, attributes := #[] }, { accessFlags := 1, nameIndex := 507, descriptorIndex := 334, attributes := #[] }, { accessFlags := 1, nameIndex := 527, descriptorIndex := 1240, attributes := #[] }, { accessFlags := 2, nameIndex := 5, descriptorIndex := 29, attributes := #[] }, { accessFlags := 0, nameIndex := 17, descriptorIndex := 337, attributes := #[] }, { accessFlags := 0, nameIndex := 494, descriptorIndex := 142, attributes := #[] }, { accessFlags := 8, nameIndex := 36, descriptorIndex := 37, attributes := #[] }, { accessFlags := 8, nameIndex := 523, descriptorIndex := 524, attributes := #[] }] 49 2 #[1106, 1108, 575, 1110, 1112] #[{ accessFlags := 18, nameIndex := 13, descriptorIndex := 14, attributes := #[] }, { accessFlags := 18, nameIndex := 17, descriptorIndex := 18, attributes := #[] }, { accessFlags := 2, nameIndex := 21, descriptorIndex := 22, attributes := #[] }, { accessFlags := 2, nameIndex := 25, descriptorIndex := 26, attributes := #[] }, { accessFlags := 26, nameIndex := 1116, descriptorIndex := 1117, attributes := #[] }, { accessFlags := 24, nameIndex := 40, descriptorIndex := 26, attributes := #[] }, { accessFlags := 26, nameIndex := 1101, descriptorIndex := 1102, attributes := #[] }, { accessFlags := 26, nameIndex := 1121, descriptorIndex := 1122, attributes := #[] }, { accessFlags := 25, nameIndex := 599, descriptorIndex := 600, attributes := #[] }, { accessFlags := 24, nameIndex := 1125, descriptorIndex := 18, attributes := #[] }, { accessFlags := 24, nameIndex := 1127, descriptorIndex := 18, attributes := #[] }])
  fields := #[{ name := "value", type := (.array .byte), accessFlags := 18, slot := 0, constantValue := 0 }, { name := "coder", type := .byte, accessFlags := 18, slot := 1, constantValue := 0 }, { name := "hash", type := .int, accessFlags := 2, slot := 2, constantValue := 0 }, { name := "hashIsZero", type := .boolean, accessFlags := 2, slot := 3, constantValue := 0 }, { name := "serialVersionUID", type := .long, accessFlags := 26, slot := 0, constantValue := 0 }, { name := "COMPACT_STRINGS", type := .boolean, accessFlags := 24, slot := 1, constantValue := 0 }, { name := "serialPersistentFields", type := (.array (.object "java/io/ObjectStreamField")), accessFlags := 26, slot := 2, constantValue := 0 }, { name := "REPL", type := .char, accessFlags := 26, slot := 3, constantValue := 0 }, { name := "CASE_INSENSITIVE_ORDER", type := (.object "java/util/Comparator"), accessFlags := 25, slot := 4, constantValue := 0 }, { name := "LATIN1", type := .byte, accessFlags := 24, slot := 5, constantValue := 0 }, { name := "UTF16", type := .byte, accessFlags := 24, slot := 6, constantValue := 0 }]
  methods := #[k8m0, k8m1, k8m2, k8m3, k8m4, k8m5, k8m6, k8m7, k8m8]
  instanceTypes := #[(.array .byte), .byte, .int, .boolean]
  staticTypes := #[.long, .boolean, (.array (.object "java/io/ObjectStreamField")), .char, (.object "java/util/Comparator"), .byte, .byte]
  resolved := Array.replicate 1451 none
  statics := some 0 }

def pool9 : Array CpInfo := pool [(3, .class_ 4), (0, u "java/lang/String"), (1, .class_ 8), (1, u "java/lang/Object"), (0, u "<init>"), (0, u "()V"), (0, .methodref 12 13), (0, .class_ 14), (0, .nameAndType 15 16), (0, u "java/lang/StringUTF16"), (0, u "newBytesLength"), (0, u "(I)I"), (3, .integer 1073741823), (23, .fieldref 12 45), (0, .nameAndType 46 47), (0, u "$assertionsDisabled"), (0, u "Z"), (0, .methodref 12 49), (0, .nameAndType 50 51), (0, u "length"), (0, u "([B)I"), (7, .fieldref 12 60), (0, .nameAndType 61 62), (0, u "HI_BYTE_SHIFT"), (0, u "I"), (0, .fieldref 12 64), (0, .nameAndType 65 62), (0, u "LO_BYTE_SHIFT"), (5, .methodref 12 72), (0, .nameAndType 73 74), (0, u "getChar"), (0, u "([BI)C"), (24, u "(II[B)V"), (5, u "getChars"), (0, u "([BII[CI)V"), (0, .methodref 12 108), (0, .nameAndType 109 110), (0, u "newBytesFor"), (0, u "(I)[B"), (0, .methodref 12 112), (0, .nameAndType 113 114), (0, u "putChar"), (0, u "([BII)V"), (0, .methodref 12 116), (0, .nameAndType 117 118), (0, u "compress"), (0, u "([CI[BII)I"), (0, .methodref 12 120), (0, .nameAndType 121 122), (0, u "toBytes"), (0, u "([CII)[B"), (50, .methodref 12 174), (0, .nameAndType 175 99), (0, u "checkBoundsOffCount"), (85, u "coderFromArrayLen"), (0, u "([BI)B"), (18, u "(III)I"), (87, .class_ 371), (1, u "java/lang/StringUTF16$LinesSpliterator"), (47, .methodref 3 420), (0, .nameAndType 175 281), (9, u "MAX_LENGTH"), (196, .class_ 628), (0, u "java/lang/StringUTF16$CodePointsSpliterator"), (0, .class_ 630), (0, u "java/lang/StringUTF16$CharsSpliterator")] 4

def k9m0 : Method := { name := "<init>", desc := "()V", sig := { parameters := [], returnType := none }, accessFlags := 0, code := none }
def k9c1 : Code := { maxStack := 1, maxLocals := 1, code := jdk_52_method_2_code, exceptionTable := #[], attributes := #[] }
def k9m1 : Method := { name := "newBytesFor", desc := "(I)[B", sig := { parameters := [.int], returnType := some (.array .byte) }, accessFlags := 9, code := some k9c1 }
def k9c2 : Code := { maxStack := 4, maxLocals := 1, code := jdk_52_method_3_code, exceptionTable := #[], attributes := #[] }
def k9m2 : Method := { name := "newBytesLength", desc := "(I)I", sig := { parameters := [.int], returnType := some .int }, accessFlags := 9, code := some k9c2 }
def k9c3 : Code := { maxStack := 4, maxLocals := 3, code := jdk_52_method_4_code, exceptionTable := #[], attributes := #[] }
def k9m3 : Method := { name := "putChar", desc := "([BII)V", sig := { parameters := [(.array .byte), .int, .int], returnType := none }, accessFlags := 8, code := some k9c3 }
def k9c4 : Code := { maxStack := 3, maxLocals := 2, code := jdk_52_method_5_code, exceptionTable := #[], attributes := #[] }
def k9m4 : Method := { name := "getChar", desc := "([BI)C", sig := { parameters := [(.array .byte), .int], returnType := some .char }, accessFlags := 8, code := some k9c4 }
def k9c5 : Code := { maxStack := 2, maxLocals := 1, code := jdk_52_method_6_code, exceptionTable := #[], attributes := #[] }
def k9m5 : Method := { name := "length", desc := "([B)I", sig := { parameters := [(.array .byte)], returnType := some .int }, accessFlags := 9, code := some k9c5 }
def k9c6 : Code := { maxStack := 4, maxLocals := 5, code := jdk_52_method_14_code, exceptionTable := #[], attributes := #[] }
def k9m6 : Method := { name := "toBytes", desc := "([CII)[B", sig := { parameters := [(.array .char), .int, .int], returnType := some (.array .byte) }, accessFlags := 9, code := some k9c6 }
def k9c7 : Code := { maxStack := 2, maxLocals := 2, code := jdk_52_method_15_code, exceptionTable := #[], attributes := #[] }
def k9m7 : Method := { name := "coderFromArrayLen", desc := "([BI)B", sig := { parameters := [(.array .byte), .int], returnType := some .byte }, accessFlags := 8, code := some k9c7 }
def k9c8 : Code := { maxStack := 5, maxLocals := 6, code := jdk_52_method_16_code, exceptionTable := #[], attributes := #[] }
def k9m8 : Method := { name := "compress", desc := "([CII)[B", sig := { parameters := [(.array .char), .int, .int], returnType := some (.array .byte) }, accessFlags := 9, code := some k9c8 }
def k9c9 : Code := { maxStack := 3, maxLocals := 7, code := jdk_52_method_21_code, exceptionTable := #[], attributes := #[] }
def k9m9 : Method := { name := "compress", desc := "([CI[BII)I", sig := { parameters := [(.array .char), .int, (.array .byte), .int, .int], returnType := some .int }, accessFlags := 9, code := some k9c9 }
def k9c10 : Code := { maxStack := 4, maxLocals := 6, code := jdk_52_method_26_code, exceptionTable := #[], attributes := #[] }
def k9m10 : Method := { name := "getChars", desc := "([BII[CI)V", sig := { parameters := [(.array .byte), .int, .int, (.array .char), .int], returnType := none }, accessFlags := 9, code := some k9c10 }
def k9c11 : Code := { maxStack := 3, maxLocals := 3, code := jdk_52_method_94_code, exceptionTable := #[], attributes := #[] }
def k9m11 : Method := { name := "checkBoundsOffCount", desc := "(II[B)V", sig := { parameters := [.int, .int, (.array .byte)], returnType := none }, accessFlags := 9, code := some k9c11 }
/-- java/lang/StringUTF16 -/
def k9 : Class := { plain "java/lang/StringUTF16" (some 0) with
  accessFlags := 48
  interfaces := #[]
  cf := some (fileOf pool9 12 #[.nestMembers #[627, 629, 369]] #[{ accessFlags := 0, nameIndex := 9, descriptorIndex := 10, attributes := #[] }, { accessFlags := 9, nameIndex := 109, descriptorIndex := 110, attributes := #[] }, { accessFlags := 9, nameIndex := 15, descriptorIndex := 16, attributes := #[] }, { accessFlags := 8, nameIndex := 113, descriptorIndex := 114, attributes := #[] }, { accessFlags := 8, nameIndex := 73, descriptorIndex := 74, attributes := #[] }, { accessFlags := 9, nameIndex := 50, descriptorIndex := 51, attributes := #[] }, { accessFlags := 9, nameIndex := 121, descriptorIndex := 122, attributes := #[] }, { accessFlags := 8, nameIndex := 261, descriptorIndex := 262, attributes := #[] }, { accessFlags := 9, nameIndex := 117, descriptorIndex := 122, attributes := #[] }, { accessFlags := 9, nameIndex := 117, descriptorIndex := 118, attributes := #[] }, { accessFlags := 9, nameIndex := 105, descriptorIndex := 106, attributes := #[] }, { accessFlags := 9, nameIndex := 175, descriptorIndex := 99, attributes := #[] }] 48 6 #[] #[{ accessFlags := 26, nameIndex := 61, descriptorIndex := 62, attributes := #[] }, { accessFlags := 26, nameIndex := 65, descriptorIndex := 62, attributes := #[] }, { accessFlags := 24, nameIndex := 430, descriptorIndex := 62, attributes := #[] }, { accessFlags := 4120, nameIndex := 46, descriptorIndex := 47, attributes := #[] }])
  fields := #[{ name := "HI_BYTE_SHIFT", type := .int, accessFlags := 26, slot := 0, constantValue := 0 }, { name := "LO_BYTE_SHIFT", type := .int, accessFlags := 26, slot := 1, constantValue := 0 }, { name := "MAX_LENGTH", type := .int, accessFlags := 24, slot := 2, constantValue := 0 }, { name := "$assertionsDisabled", type := .boolean, accessFlags := 4120, slot := 3, constantValue := 0 }]
  methods := #[k9m0, k9m1, k9m2, k9m3, k9m4, k9m5, k9m6, k9m7, k9m8, k9m9, k9m10, k9m11]
  instanceTypes := #[]
  staticTypes := #[.int, .int, .int, .boolean]
  resolved := Array.replicate 635 none
  statics := some 1 }

def pool10 : Array CpInfo := pool [(1, .class_ 2), (0, u "java/lang/Math"), (1, .class_ 6), (1, u "java/lang/Object"), (0, u "<init>"), (0, u "()V"), (89, .class_ 100), (1, u "java/lang/Math$RandomNumberGeneratorHolder"), (71, u "negativeZeroFloatBits"), (0, u "J"), (2, u "negativeZeroDoubleBits"), (21, u "max"), (2, u "min"), (43, u "$assertionsDisabled"), (0, u "Z"), (88, u "(II)I"), (2, u "twoToTheDoubleScaleDown"), (0, u "D"), (4, u "twoToTheDoubleScaleUp"), (9, u "E"), (3, u "PI"), (2, u "TAU"), (2, u "DEGREES_TO_RADIANS"), (0, u "RADIANS_TO_DEGREES")] 94

def k10m0 : Method := { name := "<init>", desc := "()V", sig := { parameters := [], returnType := none }, accessFlags := 2, code := none }
def k10c1 : Code := { maxStack := 2, maxLocals := 2, code := jdk_29_method_65_code, exceptionTable := #[], attributes := #[] }
def k10m1 : Method := { name := "max", desc := "(II)I", sig := { parameters := [.int, .int], returnType := some .int }, accessFlags := 9, code := some k10c1 }
def k10c2 : Code := { maxStack := 2, maxLocals := 2, code := jdk_29_method_69_code, exceptionTable := #[], attributes := #[] }
def k10m2 : Method := { name := "min", desc := "(II)I", sig := { parameters := [.int, .int], returnType := some .int }, accessFlags := 9, code := some k10c2 }
/-- java/lang/Math -/
def k10 : Class := { plain "java/lang/Math" (some 0) with
  accessFlags := 49
  interfaces := #[]
  cf := some (fileOf pool10 1 #[.nestMembers #[98]] #[{ accessFlags := 2, nameIndex := 7, descriptorIndex := 8, attributes := #[] }, { accessFlags := 9, nameIndex := 198, descriptorIndex := 335, attributes := #[] }, { accessFlags := 9, nameIndex := 201, descriptorIndex := 335, attributes := #[] }] 49 4 #[] #[{ accessFlags := 25, nameIndex := 354, descriptorIndex := 339, attributes := #[] }, { accessFlags := 25, nameIndex := 358, descriptorIndex := 339, attributes := #[] }, { accessFlags := 25, nameIndex := 361, descriptorIndex := 339, attributes := #[] }, { accessFlags := 26, nameIndex := 364, descriptorIndex := 339, attributes := #[] }, { accessFlags := 26, nameIndex := 365, descriptorIndex := 339, attributes := #[] }, { accessFlags := 26, nameIndex := 172, descriptorIndex := 173, attributes := #[] }, { accessFlags := 26, nameIndex := 176, descriptorIndex := 173, attributes := #[] }, { accessFlags := 8, nameIndex := 344, descriptorIndex := 339, attributes := #[] }, { accessFlags := 8, nameIndex := 338, descriptorIndex := 339, attributes := #[] }, { accessFlags := 4120, nameIndex := 245, descriptorIndex := 246, attributes := #[] }])
  fields := #[{ name := "E", type := .double, accessFlags := 25, slot := 0, constantValue := 0 }, { name := "PI", type := .double, accessFlags := 25, slot := 1, constantValue := 0 }, { name := "TAU", type := .double, accessFlags := 25, slot := 2, constantValue := 0 }, { name := "DEGREES_TO_RADIANS", type := .double, accessFlags := 26, slot := 3, constantValue := 0 }, { name := "RADIANS_TO_DEGREES", type := .double, accessFlags := 26, slot := 4, constantValue := 0 }, { name := "negativeZeroFloatBits", type := .long, accessFlags := 26, slot := 5, constantValue := 0 }, { name := "negativeZeroDoubleBits", type := .long, accessFlags := 26, slot := 6, constantValue := 0 }, { name := "twoToTheDoubleScaleUp", type := .double, accessFlags := 8, slot := 7, constantValue := 0 }, { name := "twoToTheDoubleScaleDown", type := .double, accessFlags := 8, slot := 8, constantValue := 0 }, { name := "$assertionsDisabled", type := .boolean, accessFlags := 4120, slot := 9, constantValue := 0 }]
  methods := #[k10m0, k10m1, k10m2]
  instanceTypes := #[]
  staticTypes := #[.double, .double, .double, .double, .double, .long, .long, .double, .double, .boolean]
  resolved := Array.replicate 460 none
  statics := none }

def pool11 : Array CpInfo := pool [(2, .class_ 4), (1, u "java/lang/Object"), (0, u "<init>"), (0, u "()V"), (7, .class_ 16), (1, u "java/util/Arrays"), (57, .class_ 76), (1, u "java/util/Arrays$NaturalOrder"), (36, .class_ 115), (1, u "java/util/Arrays$LegacyMergeSort"), (1, u "Z"), (32, .methodref 151 152), (0, .class_ 153), (0, .nameAndType 154 155), (0, u "java/lang/System"), (0, u "arraycopy"), (0, u "(Ljava/lang/Object;ILjava/lang/Object;II)V"), (146, u "copyOf"), (1, .methodref 305 306), (0, .class_ 307), (0, .nameAndType 308 309), (0, u "java/lang/Math"), (0, u "min"), (0, u "(II)I"), (65, .class_ 376), (0, u "java/util/Arrays$ArrayList"), (68, u "$assertionsDisabled"), (269, u "MIN_ARRAY_SORT_GRAN"), (0, u "I"), (2, u "INSERTIONSORT_THRESHOLD"), (153, u "([CI)[C"), (101, .class_ 976), (0, u "java/util/Arrays$ArrayItr")] 52

def k11m0 : Method := { name := "<init>", desc := "()V", sig := { parameters := [], returnType := none }, accessFlags := 2, code := none }
def k11c1 : Code := { maxStack := 6, maxLocals := 3, code := jdk_65_method_125_code, exceptionTable := #[], attributes := #[] }
def k11m1 : Method := { name := "copyOf", desc := "([CI)[C", sig := { parameters := [(.array .char), .int], returnType := some (.array .char) }, accessFlags := 9, code := some k11c1 }
/-- java/util/Arrays -/
def k11 : Class := { plain "java/util/Arrays" (some 0) with
  accessFlags := 49
  interfaces := #[]
  cf := some (fileOf pool11 14 #[.nestMembers #[975, 375, 113, 74]] #[{ accessFlags := 2, nameIndex := 5, descriptorIndex := 6, attributes := #[] }, { accessFlags := 9, nameIndex := 302, descriptorIndex := 873, attributes := #[] }] 49 2 #[] #[{ accessFlags := 26, nameIndex := 715, descriptorIndex := 716, attributes := #[] }, { accessFlags := 26, nameIndex := 719, descriptorIndex := 716, attributes := #[] }, { accessFlags := 4120, nameIndex := 445, descriptorIndex := 117, attributes := #[] }])
  fields := #[{ name := "MIN_ARRAY_SORT_GRAN", type := .int, accessFlags := 26, slot := 0, constantValue := 0 }, { name := "INSERTIONSORT_THRESHOLD", type := .int, accessFlags := 26, slot := 1, constantValue := 0 }, { name := "$assertionsDisabled", type := .boolean, accessFlags := 4120, slot := 2, constantValue := 0 }]
  methods := #[k11m0, k11m1]
  instanceTypes := #[]
  staticTypes := #[.int, .int, .boolean]
  resolved := Array.replicate 1029 none
  statics := none }

def pool12 : Array CpInfo := pool [(2, .class_ 4), (1, u "java/lang/Object"), (0, u "<init>"), (0, u "()V"), (1, .class_ 10), (1, u "java/lang/System"), (0, u "allowSecurityManager"), (0, u "I"), (16, u "cons"), (0, u "Ljava/io/Console;"), (77, .class_ 110), (1, u "java/lang/System$CallersHolder"), (43, u "initialErrStream"), (0, u "Ljava/io/PrintStream;"), (19, u "security"), (0, u "Ljava/lang/SecurityManager;"), (31, .class_ 209), (0, u "java/lang/System$1"), (7, u "props"), (0, u "Ljava/util/Properties;"), (2, u "lineSeparator"), (0, u "Ljava/lang/String;"), (96, .class_ 321), (1, u "java/lang/System$LoggerFinder"), (5, .class_ 328), (0, u "java/lang/System$Logger"), (67, u "err"), (2, u "out"), (91, u "notSupportedJnuEncoding"), (15, u "in"), (17, u "initialIn"), (0, u "Ljava/io/InputStream;"), (35, u "bootLayer"), (0, u "Ljava/lang/ModuleLayer;"), (99, .class_ 664), (0, u "java/lang/System$2"), (9, u "NEVER"), (2, u "MAYBE"), (49, u "arraycopy"), (0, u "(Ljava/lang/Object;ILjava/lang/Object;II)V"), (72, .class_ 802), (0, u "java/lang/System$Logger$Level")] 31

def k12m0 : Method := { name := "<init>", desc := "()V", sig := { parameters := [], returnType := none }, accessFlags := 2, code := none }
def k12m1 : Method := { name := "arraycopy", desc := "(Ljava/lang/Object;ILjava/lang/Object;II)V", sig := { parameters := [(.object "java/lang/Object"), .int, (.object "java/lang/Object"), .int, .int], returnType := none }, accessFlags := 265, code := none }
/-- java/lang/System -/
def k12 : Class := { plain "java/lang/System" (some 0) with
  accessFlags := 49
  interfaces := #[]
  cf := some (fileOf pool12 8 #[.nestMembers #[319, 327, 801, 108, 663, 208]] #[{ accessFlags := 2, nameIndex := 5, descriptorIndex := 6, attributes := #[] }, { accessFlags := 265, nameIndex := 727, descriptorIndex := 728, attributes := #[] }] 49 2 #[] #[{ accessFlags := 25, nameIndex := 507, descriptorIndex := 526, attributes := #[] }, { accessFlags := 25, nameIndex := 399, descriptorIndex := 155, attributes := #[] }, { accessFlags := 25, nameIndex := 396, descriptorIndex := 155, attributes := #[] }, { accessFlags := 10, nameIndex := 525, descriptorIndex := 526, attributes := #[] }, { accessFlags := 26, nameIndex := 674, descriptorIndex := 12, attributes := #[] }, { accessFlags := 26, nameIndex := 677, descriptorIndex := 12, attributes := #[] }, { accessFlags := 10, nameIndex := 11, descriptorIndex := 12, attributes := #[] }, { accessFlags := 74, nameIndex := 175, descriptorIndex := 176, attributes := #[] }, { accessFlags := 10, nameIndex := 491, descriptorIndex := 222, attributes := #[] }, { accessFlags := 74, nameIndex := 29, descriptorIndex := 30, attributes := #[] }, { accessFlags := 74, nameIndex := 154, descriptorIndex := 155, attributes := #[] }, { accessFlags := 10, nameIndex := 217, descriptorIndex := 218, attributes := #[] }, { accessFlags := 10, nameIndex := 221, descriptorIndex := 222, attributes := #[] }, { accessFlags := 8, nameIndex := 562, descriptorIndex := 563, attributes := #[] }])
  fields := #[{ name := "in", type := (.object "java/io/InputStream"), accessFlags := 25, slot := 0, constantValue := 0 }, { name := "out", type := (.object "java/io/PrintStream"), accessFlags := 25, slot := 1, constantValue := 0 }, { name := "err", type := (.object "java/io/PrintStream"), accessFlags := 25, slot := 2, constantValue := 0 }, { name := "initialIn", type := (.object "java/io/InputStream"), accessFlags := 10, slot := 3, constantValue := 0 }, { name := "NEVER", type := .int, accessFlags := 26, slot := 4, constantValue := 0 }, { name := "MAYBE", type := .int, accessFlags := 26, slot := 5, constantValue := 0 }, { name := "allowSecurityManager", type := .int, accessFlags := 10, slot := 6, constantValue := 0 }, { name := "security", type := (.object "java/lang/SecurityManager"), accessFlags := 74, slot := 7, constantValue := 0 }, { name := "notSupportedJnuEncoding", type := (.object "java/lang/String"), accessFlags := 10, slot := 8, constantValue := 0 }, { name := "cons", type := (.object "java/io/Console"), accessFlags := 74, slot := 9, constantValue := 0 }, { name := "initialErrStream", type := (.object "java/io/PrintStream"), accessFlags := 74, slot := 10, constantValue := 0 }, { name := "props", type := (.object "java/util/Properties"), accessFlags := 10, slot := 11, constantValue := 0 }, { name := "lineSeparator", type := (.object "java/lang/String"), accessFlags := 10, slot := 12, constantValue := 0 }, { name := "bootLayer", type := (.object "java/lang/ModuleLayer"), accessFlags := 8, slot := 13, constantValue := 0 }]
  methods := #[k12m0, k12m1]
  instanceTypes := #[]
  staticTypes := #[(.object "java/io/InputStream"), (.object "java/io/PrintStream"), (.object "java/io/PrintStream"), (.object "java/io/InputStream"), .int, .int, .int, (.object "java/lang/SecurityManager"), (.object "java/lang/String"), (.object "java/io/Console"), (.object "java/io/PrintStream"), (.object "java/util/Properties"), (.object "java/lang/String"), (.object "java/lang/ModuleLayer")]
  resolved := Array.replicate 834 none
  statics := none }

def pool13 : Array CpInfo := pool [(2, .class_ 4), (1, u "java/lang/Object"), (0, u "<init>"), (0, u "()V"), (17, .class_ 26), (1, u "jdk/internal/util/Preconditions"), (20, u "checkFromToIndex"), (1, u "checkFromIndexSize"), (5, .class_ 56), (0, u "jdk/internal/util/Preconditions$4"), (57, .class_ 115), (0, u "jdk/internal/util/Preconditions$1"), (7, u "SIOOBE_FORMATTER"), (0, u "Ljava/util/function/BiFunction;"), (0, .class_ 126), (0, u "jdk/internal/util/Preconditions$2"), (3, u "AIOOBE_FORMATTER"), (0, .class_ 132), (0, u "jdk/internal/util/Preconditions$3"), (3, u "IOOBE_FORMATTER"), (46, u "(IIILjava/util/function/BiFunction;)I")] 10

def k13m0 : Method := { name := "<init>", desc := "()V", sig := { parameters := [], returnType := none }, accessFlags := 1, code := none }
def k13c1 : Code := { maxStack := 4, maxLocals := 4, code := jdk_41_method_12_code, exceptionTable := #[], attributes := #[] }
def k13m1 : Method := { name := "checkFromToIndex", desc := "(IIILjava/util/function/BiFunction;)I", sig := { parameters := [.int, .int, .int, (.object "java/util/function/BiFunction")], returnType := some .int }, accessFlags := 9, code := some k13c1 }
def k13c2 : Code := { maxStack := 4, maxLocals := 4, code := jdk_41_method_13_code, exceptionTable := #[], attributes := #[] }
def k13m2 : Method := { name := "checkFromIndexSize", desc := "(IIILjava/util/function/BiFunction;)I", sig := { parameters := [.int, .int, .int, (.object "java/util/function/BiFunction")], returnType := some .int }, accessFlags := 9, code := some k13c2 }
/-- jdk/internal/util/Preconditions -/
def k13 : Class := { plain "jdk/internal/util/Preconditions" (some 0) with
  accessFlags := 33
  interfaces := #[]
  cf := some (fileOf pool13 24 #[.nestMembers #[55, 131, 125, 114]] #[{ accessFlags := 1, nameIndex := 5, descriptorIndex := 6, attributes := #[] }, { accessFlags := 9, nameIndex := 47, descriptorIndex := 183, attributes := #[] }, { accessFlags := 9, nameIndex := 49, descriptorIndex := 183, attributes := #[] }] 33 2 #[] #[{ accessFlags := 25, nameIndex := 123, descriptorIndex := 124, attributes := #[] }, { accessFlags := 25, nameIndex := 130, descriptorIndex := 124, attributes := #[] }, { accessFlags := 25, nameIndex := 136, descriptorIndex := 124, attributes := #[] }])
  fields := #[{ name := "SIOOBE_FORMATTER", type := (.object "java/util/function/BiFunction"), accessFlags := 25, slot := 0, constantValue := 0 }, { name := "AIOOBE_FORMATTER", type := (.object "java/util/function/BiFunction"), accessFlags := 25, slot := 1, constantValue := 0 }, { name := "IOOBE_FORMATTER", type := (.object "java/util/function/BiFunction"), accessFlags := 25, slot := 2, constantValue := 0 }]
  methods := #[k13m0, k13m1, k13m2]
  instanceTypes := #[]
  staticTypes := #[(.object "java/util/function/BiFunction"), (.object "java/util/function/BiFunction"), (.object "java/util/function/BiFunction")]
  resolved := Array.replicate 194 none
  statics := some 2 }

def pool14 : Array CpInfo := pool [(1, .class_ 2), (0, u "java/lang/Character"), (18, u "value"), (0, u "C"), (19, .class_ 44), (1, u "java/lang/Object"), (3, .class_ 50), (1, u "java/lang/Character$CharacterCache"), (24, .integer 55296), (0, .integer 56320), (0, .integer 57344), (0, .methodref 1 79), (0, .nameAndType 80 81), (0, u "isHighSurrogate"), (0, u "(C)Z"), (0, .methodref 1 83), (0, .nameAndType 84 81), (0, u "isLowSurrogate"), (66, .methodref 1 152), (0, .nameAndType 153 154), (0, u "offsetByCodePointsImpl"), (0, u "([CIIII)I"), (129, u "$assertionsDisabled"), (0, u "Z"), (21, .class_ 309), (1, u "java/lang/Character$UnicodeBlock"), (73, u "TYPE"), (0, u "Ljava/lang/Class;"), (0, .class_ 386), (0, u "java/io/Serializable"), (0, .class_ 388), (0, u "java/lang/Comparable"), (0, .class_ 390), (0, u "java/lang/constant/Constable"), (0, u "MIN_RADIX"), (0, u "I"), (2, u "MAX_RADIX"), (1, u "MIN_VALUE"), (1, u "MAX_VALUE"), (3, u "UNASSIGNED"), (0, u "B"), (0, u "UPPERCASE_LETTER"), (1, u "LOWERCASE_LETTER"), (0, u "TITLECASE_LETTER"), (1, u "MODIFIER_LETTER"), (1, u "OTHER_LETTER"), (1, u "NON_SPACING_MARK"), (1, u "ENCLOSING_MARK"), (1, u "COMBINING_SPACING_MARK"), (1, u "DECIMAL_DIGIT_NUMBER"), (1, u "LETTER_NUMBER"), (1, u "OTHER_NUMBER"), (1, u "SPACE_SEPARATOR"), (1, u "LINE_SEPARATOR"), (1, u "PARAGRAPH_SEPARATOR"), (1, u "CONTROL"), (1, u "FORMAT"), (1, u "PRIVATE_USE"), (1, u "SURROGATE"), (1, u "DASH_PUNCTUATION"), (1, u "START_PUNCTUATION"), (1, u "END_PUNCTUATION"), (1, u "CONNECTOR_PUNCTUATION"), (1, u "OTHER_PUNCTUATION"), (1, u "MATH_SYMBOL"), (1, u "CURRENCY_SYMBOL"), (1, u "MODIFIER_SYMBOL"), (1, u "OTHER_SYMBOL"), (1, u "INITIAL_QUOTE_PUNCTUATION"), (1, u "FINAL_QUOTE_PUNCTUATION"), (1, u "ERROR"), (1, u "DIRECTIONALITY_UNDEFINED"), (0, u "DIRECTIONALITY_LEFT_TO_RIGHT"), (0, u "DIRECTIONALITY_RIGHT_TO_LEFT"), (0, u "DIRECTIONALITY_RIGHT_TO_LEFT_ARABIC"), (0, u "DIRECTIONALITY_EUROPEAN_NUMBER"), (0, u "DIRECTIONALITY_EUROPEAN_NUMBER_SEPARATOR"), (0, u "DIRECTIONALITY_EUROPEAN_NUMBER_TERMINATOR"), (0, u "DIRECTIONALITY_ARABIC_NUMBER"), (0, u "DIRECTIONALITY_COMMON_NUMBER_SEPARATOR"), (0, u "DIRECTIONALITY_NONSPACING_MARK"), (0, u "DIRECTIONALITY_BOUNDARY_NEUTRAL"), (0, u "DIRECTIONALITY_PARAGRAPH_SEPARATOR"), (0, u "DIRECTIONALITY_SEGMENT_SEPARATOR"), (0, u "DIRECTIONALITY_WHITESPACE"), (0, u "DIRECTIONALITY_OTHER_NEUTRALS"), (0, u "DIRECTIONALITY_LEFT_TO_RIGHT_EMBEDDING"), (0, u "DIRECTIONALITY_LEFT_TO_RIGHT_OVERRIDE"), (0, u "DIRECTIONALITY_RIGHT_TO_LEFT_EMBEDDING"), (0, u "DIRECTIONALITY_RIGHT_TO_LEFT_OVERRIDE"), (1, u "DIRECTIONALITY_POP_DIRECTIONAL_FORMAT"), (0, u "DIRECTIONALITY_LEFT_TO_RIGHT_ISOLATE"), (0, u "DIRECTIONALITY_RIGHT_TO_LEFT_ISOLATE"), (0, u "DIRECTIONALITY_FIRST_STRONG_ISOLATE"), (0, u "DIRECTIONALITY_POP_DIRECTIONAL_ISOLATE"), (0, u "MIN_HIGH_SURROGATE"), (0, u "MAX_HIGH_SURROGATE"), (1, u "MIN_LOW_SURROGATE"), (0, u "MAX_LOW_SURROGATE"), (1, u "MIN_SURROGATE"), (0, u "MAX_SURROGATE"), (0, u "MIN_SUPPLEMENTARY_CODE_POINT"), (0, u "MIN_CODE_POINT"), (0, u "MAX_CODE_POINT"), (1, u "serialVersionUID"), (0, u "J"), (2, u "SIZE"), (0, u "BYTES"), (56, u "offsetByCodePoints"), (31, .class_ 596), (0, u "java/lang/Character$UnicodeScript"), (0, .class_ 598), (0, u "java/lang/Character$Subset")] 5

def k14c0 : Code := { maxStack := 2, maxLocals := 1, code := jdk_89_method_14_code, exceptionTable := #[], attributes := #[] }
def k14m0 : Method := { name := "isHighSurrogate", desc := "(C)Z", sig := { parameters := [.char], returnType := some .boolean }, accessFlags := 9, code := some k14c0 }
def k14c1 : Code := { maxStack := 2, maxLocals := 1, code := jdk_89_method_15_code, exceptionTable := #[], attributes := #[] }
def k14m1 : Method := { name := "isLowSurrogate", desc := "(C)Z", sig := { parameters := [.char], returnType := some .boolean }, accessFlags := 9, code := some k14c1 }
def k14c2 : Code := { maxStack := 5, maxLocals := 5, code := jdk_89_method_37_code, exceptionTable := #[], attributes := #[] }
def k14m2 : Method := { name := "offsetByCodePoints", desc := "([CIIII)I", sig := { parameters := [(.array .char), .int, .int, .int, .int], returnType := some .int }, accessFlags := 9, code := some k14c2 }
def k14c3 : Code := { maxStack := 3, maxLocals := 8, code := jdk_89_method_38_code, exceptionTable := #[], attributes := #[] }
def k14m3 : Method := { name := "offsetByCodePointsImpl", desc := "([CIIII)I", sig := { parameters := [(.array .char), .int, .int, .int, .int], returnType := some .int }, accessFlags := 8, code := some k14c3 }
/-- java/lang/Character -/
def k14 : Class := { plain "java/lang/Character" (some 0) with
  accessFlags := 49
  interfaces := #[3, 4, 6]
  cf := some (fileOf pool14 1 #[.nestMembers #[48, 595, 307, 597]] #[{ accessFlags := 9, nameIndex := 80, descriptorIndex := 81, attributes := #[] }, { accessFlags := 9, nameIndex := 84, descriptorIndex := 81, attributes := #[] }, { accessFlags := 9, nameIndex := 563, descriptorIndex := 154, attributes := #[] }, { accessFlags := 8, nameIndex := 153, descriptorIndex := 154, attributes := #[] }] 49 42 #[385, 387, 389] #[{ accessFlags := 25, nameIndex := 391, descriptorIndex := 392, attributes := #[] }, { accessFlags := 25, nameIndex := 395, descriptorIndex := 392, attributes := #[] }, { accessFlags := 25, nameIndex := 397, descriptorIndex := 22, attributes := #[] }, { accessFlags := 25, nameIndex := 399, descriptorIndex := 22, attributes := #[] }, { accessFlags := 25, nameIndex := 383, descriptorIndex := 384, attributes := #[] }, { accessFlags := 25, nameIndex := 403, descriptorIndex := 404, attributes := #[] }, { accessFlags := 25, nameIndex := 405, descriptorIndex := 404, attributes := #[] }, { accessFlags := 25, nameIndex := 407, descriptorIndex := 404, attributes := #[] }, { accessFlags := 25, nameIndex := 408, descriptorIndex := 404, attributes := #[] }, { accessFlags := 25, nameIndex := 410, descriptorIndex := 404, attributes := #[] }, { accessFlags := 25, nameIndex := 412, descriptorIndex := 404, attributes := #[] }, { accessFlags := 25, nameIndex := 414, descriptorIndex := 404, attributes := #[] }, { accessFlags := 25, nameIndex := 416, descriptorIndex := 404, attributes := #[] }, { accessFlags := 25, nameIndex := 418, descriptorIndex := 404, attributes := #[] }, { accessFlags := 25, nameIndex := 420, descriptorIndex := 404, attributes := #[] }, { accessFlags := 25, nameIndex := 422, descriptorIndex := 404, attributes := #[] }, { accessFlags := 25, nameIndex := 424, descriptorIndex := 404, attributes := #[] }, { accessFlags := 25, nameIndex := 426, descriptorIndex := 404, attributes := #[] }, { accessFlags := 25, nameIndex := 428, descriptorIndex := 404, attributes := #[] }, { accessFlags := 25, nameIndex := 430, descriptorIndex := 404, attributes := #[] }, { accessFlags := 25, nameIndex := 432, descriptorIndex := 404, attributes := #[] }, { accessFlags := 25, nameIndex := 434, descriptorIndex := 404, attributes := #[] }, { accessFlags := 25, nameIndex := 436, descriptorIndex := 404, attributes := #[] }, { accessFlags := 25, nameIndex := 438, descriptorIndex := 404, attributes := #[] }, { accessFlags := 25, nameIndex := 440, descriptorIndex := 404, attributes := #[] }, { accessFlags := 25, nameIndex := 442, descriptorIndex := 404, attributes := #[] }, { accessFlags := 25, nameIndex := 444, descriptorIndex := 404, attributes := #[] }, { accessFlags := 25, nameIndex := 446, descriptorIndex := 404, attributes := #[] }, { accessFlags := 25, nameIndex := 448, descriptorIndex := 404, attributes := #[] }, { accessFlags := 25, nameIndex := 450, descriptorIndex := 404, attributes := #[] }, { accessFlags := 25, nameIndex := 452, descriptorIndex := 404, attributes := #[] }, { accessFlags := 25, nameIndex := 454, descriptorIndex := 404, attributes := #[] }, { accessFlags := 25, nameIndex := 456, descriptorIndex := 404, attributes := #[] }, { accessFlags := 25, nameIndex := 458, descriptorIndex := 404, attributes := #[] }, { accessFlags := 25, nameIndex := 460, descriptorIndex := 404, attributes := #[] }, { accessFlags := 24, nameIndex := 462, descriptorIndex := 392, attributes := #[] }, { accessFlags := 25, nameIndex := 464, descriptorIndex := 404, attributes := #[] }, { accessFlags := 25, nameIndex := 465, descriptorIndex := 404, attributes := #[] }, { accessFlags := 25, nameIndex := 466, descriptorIndex := 404, attributes := #[] }, { accessFlags := 25, nameIndex := 467, descriptorIndex := 404, attributes := #[] }, { accessFlags := 25, nameIndex := 468, descriptorIndex := 404, attributes := #[] }, { accessFlags := 25, nameIndex := 469, descriptorIndex := 404, attributes := #[] }, { accessFlags := 25, nameIndex := 470, descriptorIndex := 404, attributes := #[] }, { accessFlags := 25, nameIndex := 471, descriptorIndex := 404, attributes := #[] }, { accessFlags := 25, nameIndex := 472, descriptorIndex := 404, attributes := #[] }, { accessFlags := 25, nameIndex := 473, descriptorIndex := 404, attributes := #[] }, { accessFlags := 25, nameIndex := 474, descriptorIndex := 404, attributes := #[] }, { accessFlags := 25, nameIndex := 475, descriptorIndex := 404, attributes := #[] }, { accessFlags := 25, nameIndex := 476, descriptorIndex := 404, attributes := #[] }, { accessFlags := 25, nameIndex := 477, descriptorIndex := 404, attributes := #[] }, { accessFlags := 25, nameIndex := 478, descriptorIndex := 404, attributes := #[] }, { accessFlags := 25, nameIndex := 479, descriptorIndex := 404, attributes := #[] }, { accessFlags := 25, nameIndex := 480, descriptorIndex := 404, attributes := #[] }, { accessFlags := 25, nameIndex := 481, descriptorIndex := 404, attributes := #[] }, { accessFlags := 25, nameIndex := 482, descriptorIndex := 404, attributes := #[] }, { accessFlags := 25, nameIndex := 484, descriptorIndex := 404, attributes := #[] }, { accessFlags := 25, nameIndex := 485, descriptorIndex := 404, attributes := #[] }, { accessFlags := 25, nameIndex := 486, descriptorIndex := 404, attributes := #[] }, { accessFlags := 25, nameIndex := 487, descriptorIndex := 404, attributes := #[] }, { accessFlags := 25, nameIndex := 488, descriptorIndex := 404, attributes := #[] }, { accessFlags := 25, nameIndex := 489, descriptorIndex := 22, attributes := #[] }, { accessFlags := 25, nameIndex := 490, descriptorIndex := 22, attributes := #[] }, { accessFlags := 25, nameIndex := 492, descriptorIndex := 22, attributes := #[] }, { accessFlags := 25, nameIndex := 493, descriptorIndex := 22, attributes := #[] }, { accessFlags := 25, nameIndex := 495, descriptorIndex := 22, attributes := #[] }, { accessFlags := 25, nameIndex := 496, descriptorIndex := 22, attributes := #[] }, { accessFlags := 25, nameIndex := 497, descriptorIndex := 392, attributes := #[] }, { accessFlags := 25, nameIndex := 498, descriptorIndex := 392, attributes := #[] }, { accessFlags := 25, nameIndex := 499, descriptorIndex := 392, attributes := #[] }, { accessFlags := 18, nameIndex := 21, descriptorIndex := 22, attributes := #[] }, { accessFlags := 26, nameIndex := 501, descriptorIndex := 502, attributes := #[] }, { accessFlags := 25, nameIndex := 505, descriptorIndex := 392, attributes := #[] }, { accessFlags := 25, nameIndex := 506, descriptorIndex := 392, attributes := #[] }, { accessFlags := 4120, nameIndex := 284, descriptorIndex := 285, attributes := #[] }])
  fields := #[{ name := "MIN_RADIX", type := .int, accessFlags := 25, slot := 0, constantValue := 0 }, { name := "MAX_RADIX", type := .int, accessFlags := 25, slot := 1, constantValue := 0 }, { name := "MIN_VALUE", type := .char, accessFlags := 25, slot := 2, constantValue := 0 }, { name := "MAX_VALUE", type := .char, accessFlags := 25, slot := 3, constantValue := 0 }, { name := "TYPE", type := (.object "java/lang/Class"), accessFlags := 25, slot := 4, constantValue := 0 }, { name := "UNASSIGNED", type := .byte, accessFlags := 25, slot := 5, constantValue := 0 }, { name := "UPPERCASE_LETTER", type := .byte, accessFlags := 25, slot := 6, constantValue := 0 }, { name := "LOWERCASE_LETTER", type := .byte, accessFlags := 25, slot := 7, constantValue := 0 }, { name := "TITLECASE_LETTER", type := .byte, accessFlags := 25, slot := 8, constantValue := 0 }, { name := "MODIFIER_LETTER", type := .byte, accessFlags := 25, slot := 9, constantValue := 0 }, { name := "OTHER_LETTER", type := .byte, accessFlags := 25, slot := 10, constantValue := 0 }, { name := "NON_SPACING_MARK", type := .byte, accessFlags := 25, slot := 11, constantValue := 0 }, { name := "ENCLOSING_MARK", type := .byte, accessFlags := 25, slot := 12, constantValue := 0 }, { name := "COMBINING_SPACING_MARK", type := .byte, accessFlags := 25, slot := 13, constantValue := 0 }, { name := "DECIMAL_DIGIT_NUMBER", type := .byte, accessFlags := 25, slot := 14, constantValue := 0 }, { name := "LETTER_NUMBER", type := .byte, accessFlags := 25, slot := 15, constantValue := 0 }, { name := "OTHER_NUMBER", type := .byte, accessFlags := 25, slot := 16, constantValue := 0 }, { name := "SPACE_SEPARATOR", type := .byte, accessFlags := 25, slot := 17, constantValue := 0 }, { name := "LINE_SEPARATOR", type := .byte, accessFlags := 25, slot := 18, constantValue := 0 }, { name := "PARAGRAPH_SEPARATOR", type := .byte, accessFlags := 25, slot := 19, constantValue := 0 }, { name := "CONTROL", type := .byte, accessFlags := 25, slot := 20, constantValue := 0 }, { name := "FORMAT", type := .byte, accessFlags := 25, slot := 21, constantValue := 0 }, { name := "PRIVATE_USE", type := .byte, accessFlags := 25, slot := 22, constantValue := 0 }, { name := "SURROGATE", type := .byte, accessFlags := 25, slot := 23, constantValue := 0 }, { name := "DASH_PUNCTUATION", type := .byte, accessFlags := 25, slot := 24, constantValue := 0 }, { name := "START_PUNCTUATION", type := .byte, accessFlags := 25, slot := 25, constantValue := 0 }, { name := "END_PUNCTUATION", type := .byte, accessFlags := 25, slot := 26, constantValue := 0 }, { name := "CONNECTOR_PUNCTUATION", type := .byte, accessFlags := 25, slot := 27, constantValue := 0 }, { name := "OTHER_PUNCTUATION", type := .byte, accessFlags := 25, slot := 28, constantValue := 0 }, { name := "MATH_SYMBOL", type := .byte, accessFlags := 25, slot := 29, constantValue := 0 }, { name := "CURRENCY_SYMBOL", type := .byte, accessFlags := 25, slot := 30, constantValue := 0 }, { name := "MODIFIER_SYMBOL", type := .byte, accessFlags := 25, slot := 31, constantValue := 0 }, { name := "OTHER_SYMBOL", type := .byte, accessFlags := 25, slot := 32, constantValue := 0 }, { name := "INITIAL_QUOTE_PUNCTUATION", type := .byte, accessFlags := 25, slot := 33, constantValue := 0 }, { name := "FINAL_QUOTE_PUNCTUATION", type := .byte, accessFlags := 25, slot := 34, constantValue := 0 }, { name := "ERROR", type := .int, accessFlags := 24, slot := 35, constantValue := 0 }, { name := "DIRECTIONALITY_UNDEFINED", type := .byte, accessFlags := 25, slot := 36, constantValue := 0 }, { name := "DIRECTIONALITY_LEFT_TO_RIGHT", type := .byte, accessFlags := 25, slot := 37, constantValue := 0 }, { name := "DIRECTIONALITY_RIGHT_TO_LEFT", type := .byte, accessFlags := 25, slot := 38, constantValue := 0 }, { name := "DIRECTIONALITY_RIGHT_TO_LEFT_ARABIC", type := .byte, accessFlags := 25, slot := 39, constantValue := 0 }, { name := "DIRECTIONALITY_EUROPEAN_NUMBER", type := .byte, accessFlags := 25, slot := 40, constantValue := 0 }, { name := "DIRECTIONALITY_EUROPEAN_NUMBER_SEPARATOR", type := .byte, accessFlags := 25, slot := 41, constantValue := 0 }, { name := "DIRECTIONALITY_EUROPEAN_NUMBER_TERMINATOR", type := .byte, accessFlags := 25, slot := 42, constantValue := 0 }, { name := "DIRECTIONALITY_ARABIC_NUMBER", type := .byte, accessFlags := 25, slot := 43, constantValue := 0 }, { name := "DIRECTIONALITY_COMMON_NUMBER_SEPARATOR", type := .byte, accessFlags := 25, slot := 44, constantValue := 0 }, { name := "DIRECTIONALITY_NONSPACING_MARK", type := .byte, accessFlags := 25, slot := 45, constantValue := 0 }, { name := "DIRECTIONALITY_BOUNDARY_NEUTRAL", type := .byte, accessFlags := 25, slot := 46, constantValue := 0 }, { name := "DIRECTIONALITY_PARAGRAPH_SEPARATOR", type := .byte, accessFlags := 25, slot := 47, constantValue := 0 }, { name := "DIRECTIONALITY_SEGMENT_SEPARATOR", type := .byte, accessFlags := 25, slot := 48, constantValue := 0 }, { name := "DIRECTIONALITY_WHITESPACE", type := .byte, accessFlags := 25, slot := 49, constantValue := 0 }, { name := "DIRECTIONALITY_OTHER_NEUTRALS", type := .byte, accessFlags := 25, slot := 50, constantValue := 0 }, { name := "DIRECTIONALITY_LEFT_TO_RIGHT_EMBEDDING", type := .byte, accessFlags := 25, slot := 51, constantValue := 0 }, { name := "DIRECTIONALITY_LEFT_TO_RIGHT_OVERRIDE", type := .byte, accessFlags := 25, slot := 52, constantValue := 0 }, { name := "DIRECTIONALITY_RIGHT_TO_LEFT_EMBEDDING", type := .byte, accessFlags := 25, slot := 53, constantValue := 0 }, { name := "DIRECTIONALITY_RIGHT_TO_LEFT_OVERRIDE", type := .byte, accessFlags := 25, slot := 54, constantValue := 0 }, { name := "DIRECTIONALITY_POP_DIRECTIONAL_FORMAT", type := .byte, accessFlags := 25, slot := 55, constantValue := 0 }, { name := "DIRECTIONALITY_LEFT_TO_RIGHT_ISOLATE", type := .byte, accessFlags := 25, slot := 56, constantValue := 0 }, { name := "DIRECTIONALITY_RIGHT_TO_LEFT_ISOLATE", type := .byte, accessFlags := 25, slot := 57, constantValue := 0 }, { name := "DIRECTIONALITY_FIRST_STRONG_ISOLATE", type := .byte, accessFlags := 25, slot := 58, constantValue := 0 }, { name := "DIRECTIONALITY_POP_DIRECTIONAL_ISOLATE", type := .byte, accessFlags := 25, slot := 59, constantValue := 0 }, { name := "MIN_HIGH_SURROGATE", type := .char, accessFlags := 25, slot := 60, constantValue := 0 }, { name := "MAX_HIGH_SURROGATE", type := .char, accessFlags := 25, slot := 61, constantValue := 0 }, { name := "MIN_LOW_SURROGATE", type := .char, accessFlags := 25, slot := 62, constantValue := 0 }, { name := "MAX_LOW_SURROGATE", type := .char, accessFlags := 25, slot := 63, constantValue := 0 }, { name := "MIN_SURROGATE", type := .char, accessFlags := 25, slot := 64, constantValue := 0 }, { name := "MAX_SURROGATE", type := .char, accessFlags := 25, slot := 65, constantValue := 0 }, { name := "MIN_SUPPLEMENTARY_CODE_POINT", type := .int, accessFlags := 25, slot := 66, constantValue := 0 }, { name := "MIN_CODE_POINT", type := .int, accessFlags := 25, slot := 67, constantValue := 0 }, { name := "MAX_CODE_POINT", type := .int, accessFlags := 25, slot := 68, constantValue := 0 }, { name := "value", type := .char, accessFlags := 18, slot := 0, constantValue := 0 }, { name := "serialVersionUID", type := .long, accessFlags := 26, slot := 69, constantValue := 0 }, { name := "SIZE", type := .int, accessFlags := 25, slot := 70, constantValue := 0 }, { name := "BYTES", type := .int, accessFlags := 25, slot := 71, constantValue := 0 }, { name := "$assertionsDisabled", type := .boolean, accessFlags := 4120, slot := 72, constantValue := 0 }]
  methods := #[k14m0, k14m1, k14m2, k14m3]
  instanceTypes := #[.char]
  staticTypes := #[.int, .int, .char, .char, (.object "java/lang/Class"), .byte, .byte, .byte, .byte, .byte, .byte, .byte, .byte, .byte, .byte, .byte, .byte, .byte, .byte, .byte, .byte, .byte, .byte, .byte, .byte, .byte, .byte, .byte, .byte, .byte, .byte, .byte, .byte, .byte, .byte, .int, .byte, .byte, .byte, .byte, .byte, .byte, .byte, .byte, .byte, .byte, .byte, .byte, .byte, .byte, .byte, .byte, .byte, .byte, .byte, .byte, .byte, .byte, .byte, .byte, .char, .char, .char, .char, .char, .char, .int, .int, .int, .long, .int, .int, .boolean]
  resolved := Array.replicate 604 none
  statics := none }

def pool15 : Array CpInfo := pool [(4, .class_ 6), (1, u "java/lang/Object"), (0, u "<init>"), (0, u "()V"), (4, .methodref 14 15), (0, .class_ 16), (0, .nameAndType 17 18), (0, u "java/lang/StringLatin1"), (0, u "inflate"), (0, u "([BI[CII)V"), (102, u "$assertionsDisabled"), (0, u "Z"), (98, .class_ 223), (1, u "java/lang/StringLatin1$LinesSpliterator"), (50, u "getChars"), (0, u "([BII[CI)V"), (114, .class_ 391), (0, u "java/lang/StringLatin1$CharsSpliterator")] 3

def k15m0 : Method := { name := "<init>", desc := "()V", sig := { parameters := [], returnType := none }, accessFlags := 0, code := none }
def k15c1 : Code := { maxStack := 6, maxLocals := 5, code := jdk_43_method_11_code, exceptionTable := #[], attributes := #[] }
def k15m1 : Method := { name := "getChars", desc := "([BII[CI)V", sig := { parameters := [(.array .byte), .int, .int, (.array .char), .int], returnType := none }, accessFlags := 9, code := some k15c1 }
def k15c2 : Code := { maxStack := 4, maxLocals := 6, code := jdk_43_method_49_code, exceptionTable := #[], attributes := #[] }
def k15m2 : Method := { name := "inflate", desc := "([BI[CII)V", sig := { parameters := [(.array .byte), .int, (.array .char), .int, .int], returnType := none }, accessFlags := 9, code := some k15c2 }
/-- java/lang/StringLatin1 -/
def k15 : Class := { plain "java/lang/StringLatin1" (some 0) with
  accessFlags := 48
  interfaces := #[]
  cf := some (fileOf pool15 14 #[.nestMembers #[390, 221]] #[{ accessFlags := 0, nameIndex := 7, descriptorIndex := 8, attributes := #[] }, { accessFlags := 9, nameIndex := 274, descriptorIndex := 275, attributes := #[] }, { accessFlags := 9, nameIndex := 17, descriptorIndex := 18, attributes := #[] }] 48 4 #[] #[{ accessFlags := 4120, nameIndex := 121, descriptorIndex := 122, attributes := #[] }])
  fields := #[{ name := "$assertionsDisabled", type := .boolean, accessFlags := 4120, slot := 0, constantValue := 0 }]
  methods := #[k15m0, k15m1, k15m2]
  instanceTypes := #[]
  staticTypes := #[.boolean]
  resolved := Array.replicate 395 none
  statics := none }

def pool16 : Array CpInfo := pool [(9, u "<init>"), (6, .class_ 18), (1, u "java/lang/Object"), (0, u "()V"), (1, .class_ 23), (1, u "jdk/internal/util/ArraysSupport"), (0, u "LOG2_ARRAY_LONG_INDEX_SCALE"), (0, u "I"), (2, u "U"), (0, u "Ljdk/internal/misc/Unsafe;"), (8, u "BIG_ENDIAN"), (0, u "Z"), (8, u "LOG2_BYTE_BIT_SIZE"), (4, u "LOG2_ARRAY_INT_INDEX_SCALE"), (54, u "JLA"), (0, u "Ljdk/internal/access/JavaLangAccess;"), (11, u "LOG2_ARRAY_BOOLEAN_INDEX_SCALE"), (9, u "LOG2_ARRAY_BYTE_INDEX_SCALE"), (5, u "LOG2_ARRAY_CHAR_INDEX_SCALE"), (5, u "LOG2_ARRAY_SHORT_INDEX_SCALE"), (18, u "LOG2_ARRAY_FLOAT_INDEX_SCALE"), (24, u "LOG2_ARRAY_DOUBLE_INDEX_SCALE"), (89, u "T_BOOLEAN"), (2, u "T_CHAR"), (1, u "T_FLOAT"), (1, u "T_DOUBLE"), (1, u "T_BYTE"), (1, u "T_SHORT"), (1, u "T_INT"), (1, u "T_LONG"), (1, u "SOFT_MAX_ARRAY_LENGTH")] 83

def k16m0 : Method := { name := "<init>", desc := "()V", sig := { parameters := [], returnType := none }, accessFlags := 2, code := none }
/-- jdk/internal/util/ArraysSupport -/
def k16 : Class := { plain "jdk/internal/util/ArraysSupport" (some 0) with
  accessFlags := 33
  interfaces := #[]
  cf := some (fileOf pool16 21 #[] #[{ accessFlags := 2, nameIndex := 9, descriptorIndex := 19, attributes := #[] }] 33 16 #[] #[{ accessFlags := 24, nameIndex := 28, descriptorIndex := 29, attributes := #[] }, { accessFlags := 26, nameIndex := 38, descriptorIndex := 39, attributes := #[] }, { accessFlags := 25, nameIndex := 121, descriptorIndex := 25, attributes := #[] }, { accessFlags := 25, nameIndex := 131, descriptorIndex := 25, attributes := #[] }, { accessFlags := 25, nameIndex := 137, descriptorIndex := 25, attributes := #[] }, { accessFlags := 25, nameIndex := 143, descriptorIndex := 25, attributes := #[] }, { accessFlags := 25, nameIndex := 53, descriptorIndex := 25, attributes := #[] }, { accessFlags := 25, nameIndex := 24, descriptorIndex := 25, attributes := #[] }, { accessFlags := 25, nameIndex := 162, descriptorIndex := 25, attributes := #[] }, { accessFlags := 25, nameIndex := 187, descriptorIndex := 25, attributes := #[] }, { accessFlags := 26, nameIndex := 48, descriptorIndex := 25, attributes := #[] }, { accessFlags := 25, nameIndex := 277, descriptorIndex := 25, attributes := #[] }, { accessFlags := 25, nameIndex := 280, descriptorIndex := 25, attributes := #[] }, { accessFlags := 25, nameIndex := 282, descriptorIndex := 25, attributes := #[] }, { accessFlags := 25, nameIndex := 284, descriptorIndex := 25, attributes := #[] }, { accessFlags := 25, nameIndex := 286, descriptorIndex := 25, attributes := #[] }, { accessFlags := 25, nameIndex := 288, descriptorIndex := 25, attributes := #[] }, { accessFlags := 25, nameIndex := 290, descriptorIndex := 25, attributes := #[] }, { accessFlags := 25, nameIndex := 292, descriptorIndex := 25, attributes := #[] }, { accessFlags := 26, nameIndex := 108, descriptorIndex := 109, attributes := #[] }, { accessFlags := 25, nameIndex := 294, descriptorIndex := 25, attributes := #[] }])
  fields := #[{ name := "U", type := (.object "jdk/internal/misc/Unsafe"), accessFlags := 24, slot := 0, constantValue := 0 }, { name := "BIG_ENDIAN", type := .boolean, accessFlags := 26, slot := 1, constantValue := 0 }, { name := "LOG2_ARRAY_BOOLEAN_INDEX_SCALE", type := .int, accessFlags := 25, slot := 2, constantValue := 0 }, { name := "LOG2_ARRAY_BYTE_INDEX_SCALE", type := .int, accessFlags := 25, slot := 3, constantValue := 0 }, { name := "LOG2_ARRAY_CHAR_INDEX_SCALE", type := .int, accessFlags := 25, slot := 4, constantValue := 0 }, { name := "LOG2_ARRAY_SHORT_INDEX_SCALE", type := .int, accessFlags := 25, slot := 5, constantValue := 0 }, { name := "LOG2_ARRAY_INT_INDEX_SCALE", type := .int, accessFlags := 25, slot := 6, constantValue := 0 }, { name := "LOG2_ARRAY_LONG_INDEX_SCALE", type := .int, accessFlags := 25, slot := 7, constantValue := 0 }, { name := "LOG2_ARRAY_FLOAT_INDEX_SCALE", type := .int, accessFlags := 25, slot := 8, constantValue := 0 }, { name := "LOG2_ARRAY_DOUBLE_INDEX_SCALE", type := .int, accessFlags := 25, slot := 9, constantValue := 0 }, { name := "LOG2_BYTE_BIT_SIZE", type := .int, accessFlags := 26, slot := 10, constantValue := 0 }, { name := "T_BOOLEAN", type := .int, accessFlags := 25, slot := 11, constantValue := 0 }, { name := "T_CHAR", type := .int, accessFlags := 25, slot := 12, constantValue := 0 }, { name := "T_FLOAT", type := .int, accessFlags := 25, slot := 13, constantValue := 0 }, { name := "T_DOUBLE", type := .int, accessFlags := 25, slot := 14, constantValue := 0 }, { name := "T_BYTE", type := .int, accessFlags := 25, slot := 15, constantValue := 0 }, { name := "T_SHORT", type := .int, accessFlags := 25, slot := 16, constantValue := 0 }, { name := "T_INT", type := .int, accessFlags := 25, slot := 17, constantValue := 0 }, { name := "T_LONG", type := .int, accessFlags := 25, slot := 18, constantValue := 0 }, { name := "JLA", type := (.object "jdk/internal/access/JavaLangAccess"), accessFlags := 26, slot := 19, constantValue := 0 }, { name := "SOFT_MAX_ARRAY_LENGTH", type := .int, accessFlags := 25, slot := 20, constantValue := 0 }]
  methods := #[k16m0]
  instanceTypes := #[]
  staticTypes := #[(.object "jdk/internal/misc/Unsafe"), .boolean, .int, .int, .int, .int, .int, .int, .int, .int, .int, .int, .int, .int, .int, .int, .int, .int, .int, (.object "jdk/internal/access/JavaLangAccess"), .int]
  resolved := Array.replicate 378 none
  statics := none }

def pool17 : Array CpInfo := pool [(1, u "java/lang/Cloneable"), (0, .class_ 1), (0, u "java/lang/Object"), (0, .class_ 3)] 3

/-- java/lang/Cloneable -/
def k17 : Class := { plain "java/lang/Cloneable" (some 0) with
  accessFlags := 1537
  interfaces := #[]
  cf := some (fileOf pool17 2 #[] #[] 1537 4 #[] #[])
  fields := #[]
  methods := #[]
  instanceTypes := #[]
  staticTypes := #[]
  resolved := Array.replicate 8 none
  statics := none }

/-- the primitive byte -/
def k18 : Class := { plain "byte" none with kind := .primitive 'B', accessFlags := 0x411 }
/-- [B -/
def k19 : Class := { plain "[B" (some 0) with kind := .array 18 .byte, interfaces := #[17, 3], accessFlags := 1041 }

/-- the primitive char -/
def k20 : Class := { plain "char" none with kind := .primitive 'C', accessFlags := 0x411 }
/-- [C -/
def k21 : Class := { plain "[C" (some 0) with kind := .array 20 .char, interfaces := #[17, 3], accessFlags := 1041 }

/-- the primitive int -/
def k22 : Class := { plain "int" none with kind := .primitive 'I', accessFlags := 0x411 }
/-- [I -/
def k23 : Class := { plain "[I" (some 0) with kind := .array 22 .int, interfaces := #[17, 3], accessFlags := 1041 }

def heap : Heap := #[{ cls := 8, slots := #[.long 0, .int 1, .null, .int 0, .null, .int 0, .int 0], vm := .statics 8 },
  { cls := 9, slots := #[.int 0, .int 8, .int 0, .int 1], vm := .statics 9 },
  { cls := 13, slots := #[.null, .null, .null], vm := .statics 13 }]
def classes : Array Class := #[k0, k1, k2, k3, k4, k5, k6, k7, k8, k9, k10, k11, k12, k13, k14, k15, k16, k17, k18, k19, k20, k21, k22, k23]
def interned : List (Array UInt16 × Addr) := []
def slotsUsed : Nat := 14
def theMethod : MethodId := ⟨1, 1⟩
def args0 : Array Value := #[.int 5, .int 5, .int 5, .int 5, .int 5, .int 5]
def aboutOver (below : List Frame) : State where
  vm := { classes := classes, interned := interned.toArray }
  heap := heap
  slotsUsed := slotsUsed
  threads := #[{ frames := .invoking theMethod args0 :: below }]
def below0 : List Frame := [.native { method := ⟨0, 0⟩, args := #[] }]
def about1 : State := aboutOver below0
def p0 : Program := .bare "" "" ""
def e0 : Env := launch0.env 0 0 0
theorem w_frames : about1.frames = Frame.invoking theMethod args0 :: below0 := rfl
set_option maxRecDepth 65536 in
theorem w_args : argsFit about1.vm theMethod args0 = true := by decide +kernel
set_option maxRecDepth 65536 in
theorem w_heap : heapFits about1 = true := by decide +kernel
set_option maxRecDepth 65536 in
theorem w_runnable : about1.curStatus? = some .runnable := by decide +kernel
set_option maxRecDepth 65536 in
theorem w_alone : about1.alone = true := by decide +kernel
set_option maxRecDepth 65536 in
theorem w_named : about1.methodNamed? x = some theMethod := by decide +kernel
set_option maxRecDepth 65536 in
theorem w_hears : about1.hears theMethod below0 = true := by decide +kernel
set_option maxRecDepth 65536 in
theorem w_ripe : about1.ripe theMethod args0 below0 = true := by decide +kernel
theorem w_running : about1.status = .running := rfl
set_option maxRecDepth 65536 in
theorem w_room : about1.hasRoom e0.platform room_1 = true :=
  launch0.hasRoom_least _ room_1 (by decide +kernel) (by decide +kernel) (by decide +kernel) (by decide +kernel) (by decide +kernel) (by decide +kernel)
theorem allAtoms_all (ts : List Jvm.Cond) (a : Array Jvm.Value) (st : Jvm.State) : (allAtoms ts).before a st = ts.all (fun c => c.before a st) := by
  induction ts with
  | nil => rfl
  | cons c t ih =>
    show (Jvm.Cond.and c (allAtoms t)).before a st = _
    rw [Jvm.Cond.before_and, ih, List.all_cons]
def words1 : List Jvm.Cond := Jvm.Cond.code x code maxLocals ret :: tables_1
/-- a 'code' word, met by the world's own term for the bytes: nothing is compared byte by byte -/
theorem code_word {y : MethodName} {bytes : ByteArray} {mx : Nat} {rt : Option FieldType} {a : Array Value} {s : State} {m : MethodId} {meth : Method} {c : Code} (h1 : s.methodNamed? y = some m) (h2 : s.vm.method? m = some meth) (h3 : meth.code = some c) (h4 : c.code = bytes)
    (h5 : (c.maxLocals == mx && c.exceptionTable.isEmpty && decide (c.maxStack ≤ mostOperands) && decide (meth.sig.returnType = rt) && !meth.locks && decide (parseMethodDescriptor y.desc = some meth.sig)) = true) : (Jvm.Cond.code y bytes mx rt).before a s = true := by
  simp only [Bool.and_eq_true, beq_iff_eq, Bool.not_eq_true', decide_eq_true_eq] at h5
  obtain ⟨⟨⟨⟨⟨g1, g2⟩, g3⟩, g4⟩, g5⟩, g6⟩ := h5
  simp [Cond.before, Cond.holds, Cond.value, h1, h2, h3, h4, g1, g2, g3, g4, g5, g6]
def isCode : Jvm.Cond → Bool
  | .code _ _ _ _ => true
  | _ => false
theorem all_split {L : List Jvm.Cond} {P : Jvm.Cond → Bool} (h1 : L.all (fun c => isCode c || P c) = true) (h2 : ∀ c ∈ L.filter isCode, P c = true) : L.all P = true := by
  refine List.all_eq_true.mpr fun c hc => ?_
  have h := List.all_eq_true.mp h1 c hc
  rcases Bool.eq_false_or_eq_true (isCode c) with hi | hi
  · exact h2 c (List.mem_filter.mpr ⟨hc, hi⟩)
  · simpa [hi] using h
set_option maxRecDepth 65536 in
theorem w_c0 : (Jvm.Cond.code x code maxLocals ret).before args0 about1 = true := code_word (m := ⟨1, 1⟩) (meth := k1m1) (c := k1c1) (by decide +kernel) rfl rfl rfl (by decide +kernel)
set_option maxRecDepth 65536 in
theorem w_c1 : (Jvm.Cond.code ({ cls := "org/arborlog/pattern/LineTextOffsetByCodePointsPinLaw", name := "mk", desc := "(I)C" } : Jvm.MethodName) method_3_code (3 : Nat) (Option.some Jvm.ClassFile.FieldType.char)).before args0 about1 = true := code_word (m := ⟨1, 2⟩) (meth := k1m2) (c := k1c2) (by decide +kernel) rfl rfl rfl (by decide +kernel)
set_option maxRecDepth 65536 in
theorem w_c2 : (Jvm.Cond.code ({ cls := "org/arborlog/pattern/LineTextOffsetByCodePointsPinLaw", name := "back", desc := "([CI)I" } : Jvm.MethodName) method_7_code (2 : Nat) (Option.some Jvm.ClassFile.FieldType.int)).before args0 about1 = true := code_word (m := ⟨1, 6⟩) (meth := k1m6) (c := k1c6) (by decide +kernel) rfl rfl rfl (by decide +kernel)
set_option maxRecDepth 65536 in
theorem w_c3 : (Jvm.Cond.code ({ cls := "org/arborlog/pattern/LineText", name := "<init>", desc := "(I)V" } : Jvm.MethodName) prog_20_method_1_code (2 : Nat) (Option.none : Option Jvm.ClassFile.FieldType)).before args0 about1 = true := code_word (m := ⟨2, 0⟩) (meth := k2m0) (c := k2c0) (by decide +kernel) rfl rfl rfl (by decide +kernel)
set_option maxRecDepth 65536 in
theorem w_c4 : (Jvm.Cond.code ({ cls := "java/lang/Object", name := "<init>", desc := "()V" } : Jvm.MethodName) object_method_1_code (1 : Nat) (Option.none : Option Jvm.ClassFile.FieldType)).before args0 about1 = true := code_word (m := ⟨0, 0⟩) (meth := k0m0) (c := k0c0) (by decide +kernel) rfl rfl rfl (by decide +kernel)
set_option maxRecDepth 65536 in
theorem w_c5 : (Jvm.Cond.code ({ cls := "java/lang/String", name := "<init>", desc := "([C)V" } : Jvm.MethodName) jdk_42_method_3_code (2 : Nat) (Option.none : Option Jvm.ClassFile.FieldType)).before args0 about1 = true := code_word (m := ⟨8, 1⟩) (meth := k8m1) (c := k8c1) (by decide +kernel) rfl rfl rfl (by decide +kernel)
set_option maxRecDepth 65536 in
theorem w_c6 : (Jvm.Cond.code ({ cls := "java/lang/String", name := "<init>", desc := "([CIILjava/lang/Void;)V" } : Jvm.MethodName) jdk_42_method_149_code (6 : Nat) (Option.none : Option Jvm.ClassFile.FieldType)).before args0 about1 = true := code_word (m := ⟨8, 4⟩) (meth := k8m4) (c := k8c4) (by decide +kernel) rfl rfl rfl (by decide +kernel)
set_option maxRecDepth 65536 in
theorem w_c7 : (Jvm.Cond.code ({ cls := "java/lang/StringUTF16", name := "compress", desc := "([CII)[B" } : Jvm.MethodName) jdk_52_method_16_code (6 : Nat) (Option.some (Jvm.ClassFile.FieldType.array Jvm.ClassFile.FieldType.byte))).before args0 about1 = true := code_word (m := ⟨9, 8⟩) (meth := k9m8) (c := k9c8) (by decide +kernel) rfl rfl rfl (by decide +kernel)
set_option maxRecDepth 65536 in
theorem w_c8 : (Jvm.Cond.code ({ cls := "java/lang/StringUTF16", name := "compress", desc := "([CI[BII)I" } : Jvm.MethodName) jdk_52_method_21_code (7 : Nat) (Option.some Jvm.ClassFile.FieldType.int)).before args0 about1 = true := code_word (m := ⟨9, 9⟩) (meth := k9m9) (c := k9c9) (by decide +kernel) rfl rfl rfl (by decide +kernel)
set_option maxRecDepth 65536 in
theorem w_c9 : (Jvm.Cond.code ({ cls := "java/lang/StringUTF16", name := "toBytes", desc := "([CII)[B" } : Jvm.MethodName) jdk_52_method_14_code (5 : Nat) (Option.some (Jvm.ClassFile.FieldType.array Jvm.ClassFile.FieldType.byte))).before args0 about1 = true := code_word (m := ⟨9, 6⟩) (meth := k9m6) (c := k9c6) (by decide +kernel) rfl rfl rfl (by decide +kernel)
set_option maxRecDepth 65536 in
theorem w_c10 : (Jvm.Cond.code ({ cls := "java/lang/StringUTF16", name := "newBytesFor", desc := "(I)[B" } : Jvm.MethodName) jdk_52_method_2_code (1 : Nat) (Option.some (Jvm.ClassFile.FieldType.array Jvm.ClassFile.FieldType.byte))).before args0 about1 = true := code_word (m := ⟨9, 1⟩) (meth := k9m1) (c := k9c1) (by decide +kernel) rfl rfl rfl (by decide +kernel)
set_option maxRecDepth 65536 in
theorem w_c11 : (Jvm.Cond.code ({ cls := "java/lang/StringUTF16", name := "newBytesLength", desc := "(I)I" } : Jvm.MethodName) jdk_52_method_3_code (1 : Nat) (Option.some Jvm.ClassFile.FieldType.int)).before args0 about1 = true := code_word (m := ⟨9, 2⟩) (meth := k9m2) (c := k9c2) (by decide +kernel) rfl rfl rfl (by decide +kernel)
set_option maxRecDepth 65536 in
theorem w_c12 : (Jvm.Cond.code ({ cls := "java/lang/StringUTF16", name := "putChar", desc := "([BII)V" } : Jvm.MethodName) jdk_52_method_4_code (3 : Nat) (Option.none : Option Jvm.ClassFile.FieldType)).before args0 about1 = true := code_word (m := ⟨9, 3⟩) (meth := k9m3) (c := k9c3) (by decide +kernel) rfl rfl rfl (by decide +kernel)
set_option maxRecDepth 65536 in
theorem w_c13 : (Jvm.Cond.code ({ cls := "java/lang/StringUTF16", name := "getChar", desc := "([BI)C" } : Jvm.MethodName) jdk_52_method_5_code (2 : Nat) (Option.some Jvm.ClassFile.FieldType.char)).before args0 about1 = true := code_word (m := ⟨9, 4⟩) (meth := k9m4) (c := k9c4) (by decide +kernel) rfl rfl rfl (by decide +kernel)
set_option maxRecDepth 65536 in
theorem w_c14 : (Jvm.Cond.code ({ cls := "java/lang/StringUTF16", name := "coderFromArrayLen", desc := "([BI)B" } : Jvm.MethodName) jdk_52_method_15_code (2 : Nat) (Option.some Jvm.ClassFile.FieldType.byte)).before args0 about1 = true := code_word (m := ⟨9, 7⟩) (meth := k9m7) (c := k9c7) (by decide +kernel) rfl rfl rfl (by decide +kernel)
set_option maxRecDepth 65536 in
theorem w_c15 : (Jvm.Cond.code ({ cls := "org/arborlog/pattern/LineText", name := "append", desc := "(Ljava/lang/String;)Lorg/arborlog/pattern/LineText;" } : Jvm.MethodName) prog_20_method_6_code (4 : Nat) (Option.some (Jvm.ClassFile.FieldType.object "org/arborlog/pattern/LineText"))).before args0 about1 = true := code_word (m := ⟨2, 1⟩) (meth := k2m1) (c := k2c1) (by decide +kernel) rfl rfl rfl (by decide +kernel)
set_option maxRecDepth 65536 in
theorem w_c16 : (Jvm.Cond.code ({ cls := "java/lang/String", name := "length", desc := "()I" } : Jvm.MethodName) jdk_42_method_54_code (1 : Nat) (Option.some Jvm.ClassFile.FieldType.int)).before args0 about1 = true := code_word (m := ⟨8, 2⟩) (meth := k8m2) (c := k8c2) (by decide +kernel) rfl rfl rfl (by decide +kernel)
set_option maxRecDepth 65536 in
theorem w_c17 : (Jvm.Cond.code ({ cls := "java/lang/String", name := "coder", desc := "()B" } : Jvm.MethodName) jdk_42_method_152_code (1 : Nat) (Option.some Jvm.ClassFile.FieldType.byte)).before args0 about1 = true := code_word (m := ⟨8, 5⟩) (meth := k8m5) (c := k8c5) (by decide +kernel) rfl rfl rfl (by decide +kernel)
set_option maxRecDepth 65536 in
theorem w_c18 : (Jvm.Cond.code ({ cls := "org/arborlog/pattern/LineText", name := "ensureCapacity", desc := "(I)V" } : Jvm.MethodName) prog_20_method_14_code (2 : Nat) (Option.none : Option Jvm.ClassFile.FieldType)).before args0 about1 = true := code_word (m := ⟨2, 4⟩) (meth := k2m4) (c := k2c4) (by decide +kernel) rfl rfl rfl (by decide +kernel)
set_option maxRecDepth 65536 in
theorem w_c19 : (Jvm.Cond.code ({ cls := "java/lang/Math", name := "max", desc := "(II)I" } : Jvm.MethodName) jdk_29_method_65_code (2 : Nat) (Option.some Jvm.ClassFile.FieldType.int)).before args0 about1 = true := code_word (m := ⟨10, 1⟩) (meth := k10m1) (c := k10c1) (by decide +kernel) rfl rfl rfl (by decide +kernel)
set_option maxRecDepth 65536 in
theorem w_c20 : (Jvm.Cond.code ({ cls := "java/util/Arrays", name := "copyOf", desc := "([CI)[C" } : Jvm.MethodName) jdk_65_method_125_code (3 : Nat) (Option.some (Jvm.ClassFile.FieldType.array Jvm.ClassFile.FieldType.char))).before args0 about1 = true := code_word (m := ⟨11, 1⟩) (meth := k11m1) (c := k11c1) (by decide +kernel) rfl rfl rfl (by decide +kernel)
set_option maxRecDepth 65536 in
theorem w_c21 : (Jvm.Cond.code ({ cls := "java/lang/Math", name := "min", desc := "(II)I" } : Jvm.MethodName) jdk_29_method_69_code (2 : Nat) (Option.some Jvm.ClassFile.FieldType.int)).before args0 about1 = true := code_word (m := ⟨10, 2⟩) (meth := k10m2) (c := k10c2) (by decide +kernel) rfl rfl rfl (by decide +kernel)
set_option maxRecDepth 65536 in
theorem w_c22 : (Jvm.Cond.code ({ cls := "java/lang/String", name := "getChars", desc := "(II[CI)V" } : Jvm.MethodName) jdk_42_method_61_code (5 : Nat) (Option.none : Option Jvm.ClassFile.FieldType)).before args0 about1 = true := code_word (m := ⟨8, 3⟩) (meth := k8m3) (c := k8c3) (by decide +kernel) rfl rfl rfl (by decide +kernel)
set_option maxRecDepth 65536 in
theorem w_c23 : (Jvm.Cond.code ({ cls := "java/lang/String", name := "checkBoundsBeginEnd", desc := "(III)V" } : Jvm.MethodName) jdk_42_method_158_code (3 : Nat) (Option.none : Option Jvm.ClassFile.FieldType)).before args0 about1 = true := code_word (m := ⟨8, 8⟩) (meth := k8m8) (c := k8c8) (by decide +kernel) rfl rfl rfl (by decide +kernel)
set_option maxRecDepth 65536 in
theorem w_c24 : (Jvm.Cond.code ({ cls := "jdk/internal/util/Preconditions", name := "checkFromToIndex", desc := "(IIILjava/util/function/BiFunction;)I" } : Jvm.MethodName) jdk_41_method_12_code (4 : Nat) (Option.some Jvm.ClassFile.FieldType.int)).before args0 about1 = true := code_word (m := ⟨13, 1⟩) (meth := k13m1) (c := k13c1) (by decide +kernel) rfl rfl rfl (by decide +kernel)
set_option maxRecDepth 65536 in
theorem w_c25 : (Jvm.Cond.code ({ cls := "java/lang/String", name := "checkBoundsOffCount", desc := "(III)I" } : Jvm.MethodName) jdk_42_method_157_code (3 : Nat) (Option.some Jvm.ClassFile.FieldType.int)).before args0 about1 = true := code_word (m := ⟨8, 7⟩) (meth := k8m7) (c := k8c7) (by decide +kernel) rfl rfl rfl (by decide +kernel)
set_option maxRecDepth 65536 in
theorem w_c26 : (Jvm.Cond.code ({ cls := "jdk/internal/util/Preconditions", name := "checkFromIndexSize", desc := "(IIILjava/util/function/BiFunction;)I" } : Jvm.MethodName) jdk_41_method_13_code (4 : Nat) (Option.some Jvm.ClassFile.FieldType.int)).before args0 about1 = true := code_word (m := ⟨13, 2⟩) (meth := k13m2) (c := k13c2) (by decide +kernel) rfl rfl rfl (by decide +kernel)
set_option maxRecDepth 65536 in
theorem w_c27 : (Jvm.Cond.code ({ cls := "java/lang/String", name := "isLatin1", desc := "()Z" } : Jvm.MethodName) jdk_42_method_154_code (1 : Nat) (Option.some Jvm.ClassFile.FieldType.boolean)).before args0 about1 = true := code_word (m := ⟨8, 6⟩) (meth := k8m6) (c := k8c6) (by decide +kernel) rfl rfl rfl (by decide +kernel)
set_option maxRecDepth 65536 in
theorem w_c28 : (Jvm.Cond.code ({ cls := "java/lang/StringUTF16", name := "getChars", desc := "([BII[CI)V" } : Jvm.MethodName) jdk_52_method_26_code (6 : Nat) (Option.none : Option Jvm.ClassFile.FieldType)).before args0 about1 = true := code_word (m := ⟨9, 10⟩) (meth := k9m10) (c := k9c10) (by decide +kernel) rfl rfl rfl (by decide +kernel)
set_option maxRecDepth 65536 in
theorem w_c29 : (Jvm.Cond.code ({ cls := "java/lang/StringUTF16", name := "checkBoundsOffCount", desc := "(II[B)V" } : Jvm.MethodName) jdk_52_method_94_code (3 : Nat) (Option.none : Option Jvm.ClassFile.FieldType)).before args0 about1 = true := code_word (m := ⟨9, 11⟩) (meth := k9m11) (c := k9c11) (by decide +kernel) rfl rfl rfl (by decide +kernel)
set_option maxRecDepth 65536 in
theorem w_c30 : (Jvm.Cond.code ({ cls := "java/lang/StringUTF16", name := "length", desc := "([B)I" } : Jvm.MethodName) jdk_52_method_6_code (1 : Nat) (Option.some Jvm.ClassFile.FieldType.int)).before args0 about1 = true := code_word (m := ⟨9, 5⟩) (meth := k9m5) (c := k9c5) (by decide +kernel) rfl rfl rfl (by decide +kernel)
set_option maxRecDepth 65536 in
theorem w_c31 : (Jvm.Cond.code ({ cls := "org/arborlog/pattern/LineText", name := "truncate", desc := "(I)V" } : Jvm.MethodName) prog_20_method_9_code (2 : Nat) (Option.none : Option Jvm.ClassFile.FieldType)).before args0 about1 = true := code_word (m := ⟨2, 2⟩) (meth := k2m2) (c := k2c2) (by decide +kernel) rfl rfl rfl (by decide +kernel)
set_option maxRecDepth 65536 in
theorem w_c32 : (Jvm.Cond.code ({ cls := "org/arborlog/pattern/LineText", name := "offsetByCodePoints", desc := "(II)I" } : Jvm.MethodName) prog_20_method_13_code (3 : Nat) (Option.some Jvm.ClassFile.FieldType.int)).before args0 about1 = true := code_word (m := ⟨2, 3⟩) (meth := k2m3) (c := k2c3) (by decide +kernel) rfl rfl rfl (by decide +kernel)
set_option maxRecDepth 65536 in
theorem w_c33 : (Jvm.Cond.code ({ cls := "java/lang/Character", name := "offsetByCodePoints", desc := "([CIIII)I" } : Jvm.MethodName) jdk_89_method_37_code (5 : Nat) (Option.some Jvm.ClassFile.FieldType.int)).before args0 about1 = true := code_word (m := ⟨14, 2⟩) (meth := k14m2) (c := k14c2) (by decide +kernel) rfl rfl rfl (by decide +kernel)
set_option maxRecDepth 65536 in
theorem w_c34 : (Jvm.Cond.code ({ cls := "java/lang/Character", name := "offsetByCodePointsImpl", desc := "([CIIII)I" } : Jvm.MethodName) jdk_89_method_38_code (8 : Nat) (Option.some Jvm.ClassFile.FieldType.int)).before args0 about1 = true := code_word (m := ⟨14, 3⟩) (meth := k14m3) (c := k14c3) (by decide +kernel) rfl rfl rfl (by decide +kernel)
set_option maxRecDepth 65536 in
theorem w_c35 : (Jvm.Cond.code ({ cls := "org/arborlog/pattern/LineTextOffsetByCodePointsPinLaw", name := "fwd", desc := "([CII)I" } : Jvm.MethodName) method_6_code (3 : Nat) (Option.some Jvm.ClassFile.FieldType.int)).before args0 about1 = true := code_word (m := ⟨1, 5⟩) (meth := k1m5) (c := k1c5) (by decide +kernel) rfl rfl rfl (by decide +kernel)
set_option maxRecDepth 65536 in
theorem w_c36 : (Jvm.Cond.code ({ cls := "org/arborlog/pattern/LineTextOffsetByCodePointsPinLaw", name := "isHigh", desc := "(C)Z" } : Jvm.MethodName) method_4_code (1 : Nat) (Option.some Jvm.ClassFile.FieldType.boolean)).before args0 about1 = true := code_word (m := ⟨1, 3⟩) (meth := k1m3) (c := k1c3) (by decide +kernel) rfl rfl rfl (by decide +kernel)
set_option maxRecDepth 65536 in
theorem w_c37 : (Jvm.Cond.code ({ cls := "java/lang/Character", name := "isHighSurrogate", desc := "(C)Z" } : Jvm.MethodName) jdk_89_method_14_code (1 : Nat) (Option.some Jvm.ClassFile.FieldType.boolean)).before args0 about1 = true := code_word (m := ⟨14, 0⟩) (meth := k14m0) (c := k14c0) (by decide +kernel) rfl rfl rfl (by decide +kernel)
set_option maxRecDepth 65536 in
theorem w_c38 : (Jvm.Cond.code ({ cls := "org/arborlog/pattern/LineTextOffsetByCodePointsPinLaw", name := "isLow", desc := "(C)Z" } : Jvm.MethodName) method_5_code (1 : Nat) (Option.some Jvm.ClassFile.FieldType.boolean)).before args0 about1 = true := code_word (m := ⟨1, 4⟩) (meth := k1m4) (c := k1c4) (by decide +kernel) rfl rfl rfl (by decide +kernel)
set_option maxRecDepth 65536 in
theorem w_c39 : (Jvm.Cond.code ({ cls := "java/lang/Character", name := "isLowSurrogate", desc := "(C)Z" } : Jvm.MethodName) jdk_89_method_15_code (1 : Nat) (Option.some Jvm.ClassFile.FieldType.boolean)).before args0 about1 = true := code_word (m := ⟨14, 1⟩) (meth := k14m1) (c := k14c1) (by decide +kernel) rfl rfl rfl (by decide +kernel)
set_option maxRecDepth 65536 in
theorem w_c40 : (Jvm.Cond.code ({ cls := "java/lang/StringLatin1", name := "getChars", desc := "([BII[CI)V" } : Jvm.MethodName) jdk_43_method_11_code (5 : Nat) (Option.none : Option Jvm.ClassFile.FieldType)).before args0 about1 = true := code_word (m := ⟨15, 1⟩) (meth := k15m1) (c := k15c1) (by decide +kernel) rfl rfl rfl (by decide +kernel)
set_option maxRecDepth 65536 in
theorem w_c41 : (Jvm.Cond.code ({ cls := "java/lang/StringLatin1", name := "inflate", desc := "([BI[CII)V" } : Jvm.MethodName) jdk_43_method_49_code (6 : Nat) (Option.none : Option Jvm.ClassFile.FieldType)).before args0 about1 = true := code_word (m := ⟨15, 2⟩) (meth := k15m2) (c := k15c2) (by decide +kernel) rfl rfl rfl (by decide +kernel)
def codes1 : List Jvm.Cond := [Jvm.Cond.code x code maxLocals ret, Jvm.Cond.code ({ cls := "org/arborlog/pattern/LineTextOffsetByCodePointsPinLaw", name := "mk", desc := "(I)C" } : Jvm.MethodName) method_3_code (3 : Nat) (Option.some Jvm.ClassFile.FieldType.char), Jvm.Cond.code ({ cls := "org/arborlog/pattern/LineTextOffsetByCodePointsPinLaw", name := "back", desc := "([CI)I" } : Jvm.MethodName) method_7_code (2 : Nat) (Option.some Jvm.ClassFile.FieldType.int), Jvm.Cond.code ({ cls := "org/arborlog/pattern/LineText", name := "<init>", desc := "(I)V" } : Jvm.MethodName) prog_20_method_1_code (2 : Nat) (Option.none : Option Jvm.ClassFile.FieldType), Jvm.Cond.code ({ cls := "java/lang/Object", name := "<init>", desc := "()V" } : Jvm.MethodName) object_method_1_code (1 : Nat) (Option.none : Option Jvm.ClassFile.FieldType), Jvm.Cond.code ({ cls := "java/lang/String", name := "<init>", desc := "([C)V" } : Jvm.MethodName) jdk_42_method_3_code (2 : Nat) (Option.none : Option Jvm.ClassFile.FieldType), Jvm.Cond.code ({ cls := "java/lang/String", name := "<init>", desc := "([CIILjava/lang/Void;)V" } : Jvm.MethodName) jdk_42_method_149_code (6 : Nat) (Option.none : Option Jvm.ClassFile.FieldType), Jvm.Cond.code ({ cls := "java/lang/StringUTF16", name := "compress", desc := "([CII)[B" } : Jvm.MethodName) jdk_52_method_16_code (6 : Nat) (Option.some (Jvm.ClassFile.FieldType.array Jvm.ClassFile.FieldType.byte)), Jvm.Cond.code ({ cls := "java/lang/StringUTF16", name := "compress", desc := "([CI[BII)I" } : Jvm.MethodName) jdk_52_method_21_code (7 : Nat) (Option.some Jvm.ClassFile.FieldType.int), Jvm.Cond.code ({ cls := "java/lang/StringUTF16", name := "toBytes", desc := "([CII)[B" } : Jvm.MethodName) jdk_52_method_14_code (5 : Nat) (Option.some (Jvm.ClassFile.FieldType.array Jvm.ClassFile.FieldType.byte)), Jvm.Cond.code ({ cls := "java/lang/StringUTF16", name := "newBytesFor", desc := "(I)[B" } : Jvm.MethodName) jdk_52_method_2_code (1 : Nat) (Option.some (Jvm.ClassFile.FieldType.array Jvm.ClassFile.FieldType.byte)), Jvm.Cond.code ({ cls := "java/lang/StringUTF16", name := "newBytesLength", desc := "(I)I" } : Jvm.MethodName) jdk_52_method_3_code (1 : Nat) (Option.some Jvm.ClassFile.FieldType.int), Jvm.Cond.code ({ cls := "java/lang/StringUTF16", name := "putChar", desc := "([BII)V" } : Jvm.MethodName) jdk_52_method_4_code (3 : Nat) (Option.none : Option Jvm.ClassFile.FieldType), Jvm.Cond.code ({ cls := "java/lang/StringUTF16", name := "getChar", desc := "([BI)C" } : Jvm.MethodName) jdk_52_method_5_code (2 : Nat) (Option.some Jvm.ClassFile.FieldType.char), Jvm.Cond.code ({ cls := "java/lang/StringUTF16", name := "coderFromArrayLen", desc := "([BI)B" } : Jvm.MethodName) jdk_52_method_15_code (2 : Nat) (Option.some Jvm.ClassFile.FieldType.byte), Jvm.Cond.code ({ cls := "org/arborlog/pattern/LineText", name := "append", desc := "(Ljava/lang/String;)Lorg/arborlog/pattern/LineText;" } : Jvm.MethodName) prog_20_method_6_code (4 : Nat) (Option.some (Jvm.ClassFile.FieldType.object "org/arborlog/pattern/LineText")), Jvm.Cond.code ({ cls := "java/lang/String", name := "length", desc := "()I" } : Jvm.MethodName) jdk_42_method_54_code (1 : Nat) (Option.some Jvm.ClassFile.FieldType.int), Jvm.Cond.code ({ cls := "java/lang/String", name := "coder", desc := "()B" } : Jvm.MethodName) jdk_42_method_152_code (1 : Nat) (Option.some Jvm.ClassFile.FieldType.byte), Jvm.Cond.code ({ cls := "org/arborlog/pattern/LineText", name := "ensureCapacity", desc := "(I)V" } : Jvm.MethodName) prog_20_method_14_code (2 : Nat) (Option.none : Option Jvm.ClassFile.FieldType), Jvm.Cond.code ({ cls := "java/lang/Math", name := "max", desc := "(II)I" } : Jvm.MethodName) jdk_29_method_65_code (2 : Nat) (Option.some Jvm.ClassFile.FieldType.int), Jvm.Cond.code ({ cls := "java/util/Arrays", name := "copyOf", desc := "([CI)[C" } : Jvm.MethodName) jdk_65_method_125_code (3 : Nat) (Option.some (Jvm.ClassFile.FieldType.array Jvm.ClassFile.FieldType.char)), Jvm.Cond.code ({ cls := "java/lang/Math", name := "min", desc := "(II)I" } : Jvm.MethodName) jdk_29_method_69_code (2 : Nat) (Option.some Jvm.ClassFile.FieldType.int), Jvm.Cond.code ({ cls := "java/lang/String", name := "getChars", desc := "(II[CI)V" } : Jvm.MethodName) jdk_42_method_61_code (5 : Nat) (Option.none : Option Jvm.ClassFile.FieldType), Jvm.Cond.code ({ cls := "java/lang/String", name := "checkBoundsBeginEnd", desc := "(III)V" } : Jvm.MethodName) jdk_42_method_158_code (3 : Nat) (Option.none : Option Jvm.ClassFile.FieldType), Jvm.Cond.code ({ cls := "jdk/internal/util/Preconditions", name := "checkFromToIndex", desc := "(IIILjava/util/function/BiFunction;)I" } : Jvm.MethodName) jdk_41_method_12_code (4 : Nat) (Option.some Jvm.ClassFile.FieldType.int), Jvm.Cond.code ({ cls := "java/lang/String", name := "checkBoundsOffCount", desc := "(III)I" } : Jvm.MethodName) jdk_42_method_157_code (3 : Nat) (Option.some Jvm.ClassFile.FieldType.int), Jvm.Cond.code ({ cls := "jdk/internal/util/Preconditions", name := "checkFromIndexSize", desc := "(IIILjava/util/function/BiFunction;)I" } : Jvm.MethodName) jdk_41_method_13_code (4 : Nat) (Option.some Jvm.ClassFile.FieldType.int), Jvm.Cond.code ({ cls := "java/lang/String", name := "isLatin1", desc := "()Z" } : Jvm.MethodName) jdk_42_method_154_code (1 : Nat) (Option.some Jvm.ClassFile.FieldType.boolean), Jvm.Cond.code ({ cls := "java/lang/StringUTF16", name := "getChars", desc := "([BII[CI)V" } : Jvm.MethodName) jdk_52_method_26_code (6 : Nat) (Option.none : Option Jvm.ClassFile.FieldType), Jvm.Cond.code ({ cls := "java/lang/StringUTF16", name := "checkBoundsOffCount", desc := "(II[B)V" } : Jvm.MethodName) jdk_52_method_94_code (3 : Nat) (Option.none : Option Jvm.ClassFile.FieldType), Jvm.Cond.code ({ cls := "java/lang/StringUTF16", name := "length", desc := "([B)I" } : Jvm.MethodName) jdk_52_method_6_code (1 : Nat) (Option.some Jvm.ClassFile.FieldType.int), Jvm.Cond.code ({ cls := "org/arborlog/pattern/LineText", name := "truncate", desc := "(I)V" } : Jvm.MethodName) prog_20_method_9_code (2 : Nat) (Option.none : Option Jvm.ClassFile.FieldType), Jvm.Cond.code ({ cls := "org/arborlog/pattern/LineText", name := "offsetByCodePoints", desc := "(II)I" } : Jvm.MethodName) prog_20_method_13_code (3 : Nat) (Option.some Jvm.ClassFile.FieldType.int), Jvm.Cond.code ({ cls := "java/lang/Character", name := "offsetByCodePoints", desc := "([CIIII)I" } : Jvm.MethodName) jdk_89_method_37_code (5 : Nat) (Option.some Jvm.ClassFile.FieldType.int), Jvm.Cond.code ({ cls := "java/lang/Character", name := "offsetByCodePointsImpl", desc := "([CIIII)I" } : Jvm.MethodName) jdk_89_method_38_code (8 : Nat) (Option.some Jvm.ClassFile.FieldType.int), Jvm.Cond.code ({ cls := "org/arborlog/pattern/LineTextOffsetByCodePointsPinLaw", name := "fwd", desc := "([CII)I" } : Jvm.MethodName) method_6_code (3 : Nat) (Option.some Jvm.ClassFile.FieldType.int), Jvm.Cond.code ({ cls := "org/arborlog/pattern/LineTextOffsetByCodePointsPinLaw", name := "isHigh", desc := "(C)Z" } : Jvm.MethodName) method_4_code (1 : Nat) (Option.some Jvm.ClassFile.FieldType.boolean), Jvm.Cond.code ({ cls := "java/lang/Character", name := "isHighSurrogate", desc := "(C)Z" } : Jvm.MethodName) jdk_89_method_14_code (1 : Nat) (Option.some Jvm.ClassFile.FieldType.boolean), Jvm.Cond.code ({ cls := "org/arborlog/pattern/LineTextOffsetByCodePointsPinLaw", name := "isLow", desc := "(C)Z" } : Jvm.MethodName) method_5_code (1 : Nat) (Option.some Jvm.ClassFile.FieldType.boolean), Jvm.Cond.code ({ cls := "java/lang/Character", name := "isLowSurrogate", desc := "(C)Z" } : Jvm.MethodName) jdk_89_method_15_code (1 : Nat) (Option.some Jvm.ClassFile.FieldType.boolean), Jvm.Cond.code ({ cls := "java/lang/StringLatin1", name := "getChars", desc := "([BII[CI)V" } : Jvm.MethodName) jdk_43_method_11_code (5 : Nat) (Option.none : Option Jvm.ClassFile.FieldType), Jvm.Cond.code ({ cls := "java/lang/StringLatin1", name := "inflate", desc := "([BI[CII)V" } : Jvm.MethodName) jdk_43_method_49_code (6 : Nat) (Option.none : Option Jvm.ClassFile.FieldType)]
set_option maxRecDepth 65536 in
theorem codes_eq : words1.filter isCode = codes1 := rfl
theorem w_codes : ∀ c ∈ words1.filter isCode, c.before args0 about1 = true := by
  rw [codes_eq]
  intro c hc
  simp only [codes1, List.mem_cons, List.not_mem_nil, or_false] at hc
  rcases hc with rfl | rfl | rfl | rfl | rfl | rfl | rfl | rfl | rfl | rfl | rfl | rfl | rfl | rfl | rfl | rfl | rfl | rfl | rfl | rfl | rfl | rfl | rfl | rfl | rfl | rfl | rfl | rfl | rfl | rfl | rfl | rfl | rfl | rfl | rfl | rfl | rfl | rfl | rfl | rfl | rfl | rfl
  · exact w_c0
  · exact w_c1
  · exact w_c2
  · exact w_c3
  · exact w_c4
  · exact w_c5
  · exact w_c6
  · exact w_c7
  · exact w_c8
  · exact w_c9
  · exact w_c10
  · exact w_c11
  · exact w_c12
  · exact w_c13
  · exact w_c14
  · exact w_c15
  · exact w_c16
  · exact w_c17
  · exact w_c18
  · exact w_c19
  · exact w_c20
  · exact w_c21
  · exact w_c22
  · exact w_c23
  · exact w_c24
  · exact w_c25
  · exact w_c26
  · exact w_c27
  · exact w_c28
  · exact w_c29
  · exact w_c30
  · exact w_c31
  · exact w_c32
  · exact w_c33
  · exact w_c34
  · exact w_c35
  · exact w_c36
  · exact w_c37
  · exact w_c38
  · exact w_c39
  · exact w_c40
  · exact w_c41
set_option maxRecDepth 65536 in
theorem w_t1 : (words1.take 24).all (fun c => isCode c || c.before args0 about1) = true := by decide +kernel
set_option maxRecDepth 65536 in
theorem w_t2 : ((words1.drop 24).take 24).all (fun c => isCode c || c.before args0 about1) = true := by decide +kernel
set_option maxRecDepth 65536 in
theorem w_t3 : (((words1.drop 24).drop 24).take 24).all (fun c => isCode c || c.before args0 about1) = true := by decide +kernel
set_option maxRecDepth 65536 in
theorem w_t4 : ((((words1.drop 24).drop 24).drop 24).take 24).all (fun c => isCode c || c.before args0 about1) = true := by decide +kernel
set_option maxRecDepth 65536 in
theorem w_t5 : (((((words1.drop 24).drop 24).drop 24).drop 24).take 24).all (fun c => isCode c || c.before args0 about1) = true := by decide +kernel
set_option maxRecDepth 65536 in
theorem w_t6 : ((((((words1.drop 24).drop 24).drop 24).drop 24).drop 24).take 24).all (fun c => isCode c || c.before args0 about1) = true := by decide +kernel
set_option maxRecDepth 65536 in
theorem w_t7 : (((((((words1.drop 24).drop 24).drop 24).drop 24).drop 24).drop 24).take 24).all (fun c => isCode c || c.before args0 about1) = true := by decide +kernel
set_option maxRecDepth 65536 in
theorem w_t8 : (((((((words1.drop 24).drop 24).drop 24).drop 24).drop 24).drop 24).drop 24).all (fun c => isCode c || c.before args0 about1) = true := by decide +kernel
theorem w_tables : (allAtoms (Jvm.Cond.code x code maxLocals ret :: tables_1)).before args0 about1 = true := by
  rw [allAtoms_all]
  show words1.all (fun c => c.before args0 about1) = true
  refine all_split ?_ w_codes
  rw [← List.take_append_drop 24 words1, List.all_append, w_t1, ← List.take_append_drop 24 (words1.drop 24), List.all_append, w_t2, ← List.take_append_drop 24 ((words1.drop 24).drop 24), List.all_append, w_t3, ← List.take_append_drop 24 (((words1.drop 24).drop 24).drop 24), List.all_append, w_t4, ← List.take_append_drop 24 ((((words1.drop 24).drop 24).drop 24).drop 24), List.all_append, w_t5, ← List.take_append_drop 24 (((((words1.drop 24).drop 24).drop 24).drop 24).drop 24), List.all_append, w_t6, ← List.take_append_drop 24 ((((((words1.drop 24).drop 24).drop 24).drop 24).drop 24).drop 24), List.all_append, w_t7, w_t8]
  rfl
set_option maxRecDepth 65536 in
theorem w_rest : rest_1_c.before args0 about1 = true := by decide +kernel
set_option maxRecDepth 65536 in
theorem w_case : (Jvm.Cond.and given_1 narrow_1).before args0 about1 = true := by decide +kernel
theorem w_applies : (headSpec (Jvm.Cond.code x code maxLocals ret :: tables_1) room_1).applies x e0.platform about1 = true :=
  (Spec.applies_iff w_frames).mpr ⟨w_running, w_runnable, w_alone, w_named, w_hears, w_ripe, w_room, w_tables⟩
theorem atStart : AtStart classFile x code maxLocals ret World_1 tables_1 room_1 Calls_1 rest_1 Pre_1 launch0 p0 e0 about1 theMethod args0 below0 :=
  ⟨lists_1, trivial, launch0.admits_env _ _ _, launch0.least_env, fairChoices_fair.cas, fairChoices_fair.clock, w_frames, w_args, w_heap, w_applies, trivial, w_rest, w_case⟩
end start1
theorem witness_1 : WitnessClaimed_1 := ⟨start1.p0, start1.e0, start1.about1, start1.theMethod, start1.args0, start1.below0, start1.atStart⟩
end Jvm.Pilot.@@N@@
