import JvmDerived
import JvmDerived.Pilot.@@N@@Statement
import JvmDerived.Pilot.@@N@@Code
set_option linter.unusedVariables false
set_option linter.unusedSimpArgs false
namespace Jvm.RoadKit
open Sem ClassFile Op Lib Jvm.Stand Jvm.Free Jvm.LawKit
section New
variable {p : Program} {l : Launch} {e : Env} {R : Room} {s : State} {m : MethodId} {args : Array Value} {below : List Frame} {meth : Method} {c : Code} {T : State} {locs : List Loc} {cells slots : Nat}
theorem own_retI (X : Stand p l e R s m args below meth c T locs cells slots) (hx : p.tables.exec = Jvm.exec) {pc : Nat} {Ls : Array Slot} {z : Int32} {rest : List Value} (hret : meth.sig.returnType = some .int) (hd : decode c.code pc = .ok (.ireturn, 1)) {fs : List Frame}
    (hl : ∀ (f : JFrame) (acts : List Action), f.method = m → f.locked = none → f.entered = [] → (doReturn e (T.setTop f) acts (some (.int z))).1 = T.setFrames fs) : Steps p.tables e below (T.setTop (mkF m pc Ls (.int z :: rest))) (T.setFrames fs) :=
  retOut X hx hret rfl (Or.inl ⟨rfl, Or.inl rfl, z, rfl⟩) hd hl
theorem own_retL (X : Stand p l e R s m args below meth c T locs cells slots) (hx : p.tables.exec = Jvm.exec) {pc : Nat} {Ls : Array Slot} {z : Int64} {rest : List Value} (hret : meth.sig.returnType = some .long) (hd : decode c.code pc = .ok (.lreturn, 1)) {fs : List Frame}
    (hl : ∀ (f : JFrame) (acts : List Action), f.method = m → f.locked = none → f.entered = [] → (doReturn e (T.setTop f) acts (some (.long z))).1 = T.setFrames fs) : Steps p.tables e below (T.setTop (mkF m pc Ls (.long z :: rest))) (T.setFrames fs) :=
  retOut X hx hret rfl (Or.inr (Or.inl ⟨rfl, rfl, z, rfl⟩)) hd hl
theorem own_retA (X : Stand p l e R s m args below meth c T locs cells slots) (hx : p.tables.exec = Jvm.exec) {pc : Nat} {Ls : Array Slot} {w : Value} {t : FieldType} {rest : List Value} (hret : meth.sig.returnType = some t) (ht : t.isReference = true) (hw : w.isRef = true) (hn : narrow t w = w) (hd : decode c.code pc = .ok (.areturn, 1)) {fs : List Frame}
    (hl : ∀ (f : JFrame) (acts : List Action), f.method = m → f.locked = none → f.entered = [] → (doReturn e (T.setTop f) acts (some w)).1 = T.setFrames fs) : Steps p.tables e below (T.setTop (mkF m pc Ls (w :: rest))) (T.setFrames fs) :=
  retOut X hx hret hn (Or.inr (Or.inr (Or.inr (Or.inr ⟨rfl, ht, hw⟩)))) hd hl
theorem own_lremM {g : JFrame} {target : State} (X : Stand p l e R s m args below meth c T locs cells slots) (hx : p.tables.exec = Jvm.exec) (hg : g.method = m) {x y : Int64} {rest : List Value} (hd : decode c.code g.pc = .ok (.lrem, 1)) (hs : g.stack = .long y :: .long x :: rest) (hy : y ≠ 0)
    (hr : Steps p.tables e below (T.setTop { g with pc := g.pc + 1, stack := .long (x % y) :: rest }) target) : Steps p.tables e below (T.setTop g) target := by
  have q : x - x / y * y = x % y := lrem_mod x y
  exact XS.lrem X.here hx hg hd hs hy (by rw [q]; exact hr)
theorem own_selp {Z s : State} {a0 args : Array Value} {y : MethodName} {n : Nat} (hZ : Z.Warmed39 s.vm) (wi : (Cond.instantiable y.cls n).before a0 Z = true) (wp : (Cond.privateMethod y).before a0 Z = true) (wm : (Cond.instanceMethod y).before a0 Z = true)
    (hy : y.cls ≠ "java/lang/invoke/MethodHandle" ∧ y.cls ≠ "java/lang/invoke/VarHandle") : (Cond.selects y.cls y y).before args s = true := by
  obtain ⟨c, k, h1, h2, h3, h4, -⟩ := Cond.instantiable_spec (mvT (args := args) hZ wi)
  exact selects_self_of_private h1 h2 (by simp only [Bool.or_eq_false_iff] at h4; exact h4.1) (Cond.privateMethod_at (mvP hZ wp (args := #[]))) (mvT hZ wm) hy
end New
end Jvm.RoadKit
namespace Jvm.Pilot.@@N@@
open Jvm Jvm.ClassFile Sem Op Lib Jvm.Free Jvm.Stand Jvm.LawKit Jvm.RoadKit Bundle Jvm.Pilot.@@N@@.Jvm.D
theorem own_cp (vd vs : List Value) (d : Value) (dp nn sp : Nat) (hl : dp + nn ≤ vd.length) (i : Nat) : (vd.take dp ++ ((List.range nn).map fun j => vs.getD (sp + j) d) ++ vd.drop (dp + nn)).getD i d = if i < dp then vd.getD i d else if i < dp + nn then vs.getD (sp + (i - dp)) d else vd.getD i d := by
  have lt : (vd.take dp).length = dp := by rw [List.length_take]; omega
  simp only [List.getD_eq_getElem?_getD]
  have lu : ((List.range nn).map fun j => vs[sp + j]?.getD d).length = nn := by simp
  by_cases h1 : i < dp
  · rw [if_pos h1, List.append_assoc, List.getElem?_append_left (by omega), List.getElem?_take_of_lt h1]
  · rw [if_neg h1]
    by_cases h2 : i < dp + nn
    · rw [if_pos h2, List.append_assoc, List.getElem?_append_right (by omega), lt, List.getElem?_append_left (by omega)]
      rw [List.getElem?_map, List.getElem?_range (show i - dp < nn by omega)]; simp
    · rw [if_neg h2, List.getElem?_append_right (by rw [List.length_append]; omega), List.length_append, lt, lu, List.getElem?_drop, show dp + nn + (i - (dp + nn)) = i by omega]
theorem own_pad (vs : List Value) (d : Value) (i : Nat) : (vs ++ List.replicate 16 d).getD i d = vs.getD i d := pad_rep vs d 16 i
theorem own_padl (vs : List Value) (d : Value) : 16 ≤ (vs ++ List.replicate 16 d).length := by rw [List.length_append, List.length_replicate]; omega
theorem own_nat {x : Int32} (h : ¬ x < 0) : (x.toNatClampNeg : Int) = x.toInt := (nat_of h).symm
theorem own_set (vs : List Value) (d v : Value) (k i : Nat) (hk : k < vs.length) : (vs.set k v).getD i d = if i = k then v else vs.getD i d := by
  simp only [List.getD_eq_getElem?_getD]
  by_cases h : i = k
  · subst h; rw [if_pos rfl, List.getElem?_set_self hk]; rfl
  · rw [if_neg h, List.getElem?_set_ne (fun q => h q.symm)]
def Q6 (p1 p2 : Int32) (h0 : Heap) (n0 : Nat) (v : Option Value) (h : Heap) (L : List Loc) : Prop := v = some (.int (if p1 < p2 then p2 else p1)) ∧ Fr n0 L ∧ h = h0
theorem d6_0 : decode jdk_29_method_65_code 0 = .ok (.iload_n 0, 1) := by decide +kernel
theorem d6_1 : decode jdk_29_method_65_code 1 = .ok (.iload_n 1, 1) := by decide +kernel
theorem d6_2 : decode jdk_29_method_65_code 2 = .ok (.if_icmp .lt 7, 3) := by decide +kernel
theorem d6_5 : decode jdk_29_method_65_code 5 = .ok (.iload_n 0, 1) := by decide +kernel
theorem d6_6 : decode jdk_29_method_65_code 6 = .ok (.goto 4, 3) := by decide +kernel
theorem d6_9 : decode jdk_29_method_65_code 9 = .ok (.iload_n 1, 1) := by decide +kernel
theorem d6_10 : decode jdk_29_method_65_code 10 = .ok (.ireturn, 1) := by decide +kernel
theorem ef_rm6 (m : MethodId) (x0 : Int32) (x1 : Int32) : entryFrame m #[(.int x0), (.int x1)] 2 = mkF m 0 #[.val (.int x0), .val (.int x1)] [] := by first | (simp [entryFrame, mkF, argsToLocals, Value.category]; done) | rfl
set_option maxRecDepth 65536 in
set_option maxHeartbeats 40000000 in
theorem rm6 (l : Launch) (Z : State) (a0 : Array Value) (hw : ∀ d ∈ tables_1, d.before a0 Z = true) (ws : List Jvm.Cond) (p1 p2 : Int32) (h0 : Heap) (n0 : Nat) (Z0 : n0 ≤ h0.size) :
    MetFree l (⟨"java/lang/Math", "max", "(II)I"⟩ : MethodName) (head1 (Jvm.Cond.code (⟨"java/lang/Math", "max", "(II)I"⟩ : MethodName) jdk_29_method_65_code 2 (some .int) :: ws) ({ frames := 0, cells := 0, slots := 0, locals := 0 } : Room)) (fun a U => a = #[(.int p1), (.int p2)] ∧ Z.Warmed39 U.vm ∧ U.heap = h0) (fun _ _ _ _ _ => True) (fun _ U o U' => ∃ v L, o = .returned v ∧ Q6 p1 p2 h0 n0 v U'.heap L ∧ FrameEnd U o U' L ({ frames := 0, cells := 0, slots := 0, locals := 0 } : Room).cells ({ frames := 0, cells := 0, slots := 0, locals := 0 } : Room).slots) := by
  refine MetFree.of_bodySF (Jvm.Free.JP.mathPlain rfl (by decide +kernel)) hisR ?_
  intro p e s m args below meth c s₁ Bd hml0 hP hK
  obtain ⟨rfl, hZ, hh⟩ := hP
  have hx := Bd.exec
  have hby := Bd.bytes
  have hml : c.maxLocals = 2 := hml0
  have hown : s.vm.findClass "java/lang/Math" = some m.cls := findClass_of_methodNamed Bd.named
  have hnm := (name_of_methodNamed Bd.named Bd.method).1
  have X0 : Stand p l e ({ frames := 0, cells := 0, slots := 0, locals := 0 } : Room) s m #[(.int p1), (.int p2)] below meth c s₁ [] 0 0 := Stand.of_body Bd
  have e0 : s₁.heap = h0 := by rw [← hh, Bd.state]; rfl
  have N0 := Fr.nil n0
  have KP0 : Keep h0 h0 [] := Keep.refl h0 _
  obtain ⟨G, hG⟩ : ∃ G : State, G = s₁.setTop (entryFrame m #[(.int p1), (.int p2)] 2) := ⟨_, rfl⟩
  have pre0 : ∀ t, Steps p.tables e below (s₁.setTop (mkF m 0 #[.val (.int p1), .val (.int p2)] [])) t → Steps p.tables e below G t := fun t k => hG ▸ castTop (ef_rm6 m p1 p2) k
  have K1 : ∀ t, Steps p.tables e below (s₁.setTop (mkF m 2 #[.val (.int p1), .val (.int p2)] [(.int p2), (.int p1)])) t → Steps p.tables e below G t := by
    intro t k
    refine pre0 t ?_
    show Steps p.tables e below (s₁.setTop (mkF m 0 #[.val (.int p1), .val (.int p2)] [])) _
    refine XS.iloadN X0.here hx rfl (hb hby d6_0) rfl ?_
    show Steps p.tables e below (s₁.setTop (mkF m 1 #[.val (.int p1), .val (.int p2)] [(.int p1)])) _
    refine XS.iloadN X0.here hx rfl (hb hby d6_1) rfl ?_
    show Steps p.tables e below (s₁.setTop (mkF m 2 #[.val (.int p1), .val (.int p2)] [(.int p2), (.int p1)])) _
    exact k
  by_cases hc2 : p1 < p2
  · obtain ⟨fs, hr, hrun, hended, hW, hsame⟩ := X0.leave (v := some (.int p2)) (fun h => by rw [Bd.returns] at h; cases h)
    have KF := K1
    rw [hG] at KF
    refine ⟨_, _, KF _ ?_, hrun, hended, _, _, rfl, ?_, ⟨_, rfl⟩, hW, hsame.mono (by decide) (by decide)⟩
    · show Steps p.tables e below (s₁.setTop (mkF m 2 #[.val (.int p1), .val (.int p2)] [(.int p2), (.int p1)])) _
      refine XS.icmpYes X0.here hx rfl (pc0 := 2) (pc' := 9) rfl (hb hby d6_2) rfl (tlt hc2).1 (by decide) (by decide) ?_
      show Steps p.tables e below (s₁.setTop (mkF m 9 #[.val (.int p1), .val (.int p2)] [])) _
      refine XS.iloadN X0.here hx rfl (hb hby d6_9) rfl ?_
      show Steps p.tables e below (s₁.setTop (mkF m 10 #[.val (.int p1), .val (.int p2)] [(.int p2)])) _
      exact own_retI X0 hx Bd.returns (hb hby d6_10) hr
    · show Q6 p1 p2 h0 n0 _ s₁.heap _
      rw [e0]
      exact ⟨by simp only [if_pos hc2], N0, rfl⟩
  · obtain ⟨fs, hr, hrun, hended, hW, hsame⟩ := X0.leave (v := some (.int p1)) (fun h => by rw [Bd.returns] at h; cases h)
    have KF := K1
    rw [hG] at KF
    refine ⟨_, _, KF _ ?_, hrun, hended, _, _, rfl, ?_, ⟨_, rfl⟩, hW, hsame.mono (by decide) (by decide)⟩
    · show Steps p.tables e below (s₁.setTop (mkF m 2 #[.val (.int p1), .val (.int p2)] [(.int p2), (.int p1)])) _
      refine XS.icmpNo X0.here hx rfl (hb hby d6_2) rfl (flt hc2).1 ?_
      show Steps p.tables e below (s₁.setTop (mkF m 5 #[.val (.int p1), .val (.int p2)] [])) _
      refine XS.iloadN X0.here hx rfl (hb hby d6_5) rfl ?_
      show Steps p.tables e below (s₁.setTop (mkF m 6 #[.val (.int p1), .val (.int p2)] [(.int p1)])) _
      refine XS.goto X0.here hx rfl (pc0 := 6) (pc' := 10) rfl (hb hby d6_6) (by decide) (by decide) ?_
      show Steps p.tables e below (s₁.setTop (mkF m 10 #[.val (.int p1), .val (.int p2)] [(.int p1)])) _
      exact own_retI X0 hx Bd.returns (hb hby d6_10) hr
    · show Q6 p1 p2 h0 n0 _ s₁.heap _
      rw [e0]
      exact ⟨by simp only [if_neg hc2], N0, rfl⟩
def Q8 (p1 p2 : Int32) (h0 : Heap) (n0 : Nat) (v : Option Value) (h : Heap) (L : List Loc) : Prop := v = some (.int (if p2 < p1 then p2 else p1)) ∧ Fr n0 L ∧ h = h0
theorem d8_0 : decode jdk_29_method_69_code 0 = .ok (.iload_n 0, 1) := by decide +kernel
theorem d8_1 : decode jdk_29_method_69_code 1 = .ok (.iload_n 1, 1) := by decide +kernel
theorem d8_2 : decode jdk_29_method_69_code 2 = .ok (.if_icmp .gt 7, 3) := by decide +kernel
theorem d8_5 : decode jdk_29_method_69_code 5 = .ok (.iload_n 0, 1) := by decide +kernel
theorem d8_6 : decode jdk_29_method_69_code 6 = .ok (.goto 4, 3) := by decide +kernel
theorem d8_9 : decode jdk_29_method_69_code 9 = .ok (.iload_n 1, 1) := by decide +kernel
theorem d8_10 : decode jdk_29_method_69_code 10 = .ok (.ireturn, 1) := by decide +kernel
theorem ef_rm8 (m : MethodId) (x0 : Int32) (x1 : Int32) : entryFrame m #[(.int x0), (.int x1)] 2 = mkF m 0 #[.val (.int x0), .val (.int x1)] [] := by first | (simp [entryFrame, mkF, argsToLocals, Value.category]; done) | rfl
set_option maxRecDepth 65536 in
set_option maxHeartbeats 40000000 in
theorem rm8 (l : Launch) (Z : State) (a0 : Array Value) (hw : ∀ d ∈ tables_1, d.before a0 Z = true) (ws : List Jvm.Cond) (p1 p2 : Int32) (h0 : Heap) (n0 : Nat) (Z0 : n0 ≤ h0.size) :
    MetFree l (⟨"java/lang/Math", "min", "(II)I"⟩ : MethodName) (head1 (Jvm.Cond.code (⟨"java/lang/Math", "min", "(II)I"⟩ : MethodName) jdk_29_method_69_code 2 (some .int) :: ws) ({ frames := 0, cells := 0, slots := 0, locals := 0 } : Room)) (fun a U => a = #[(.int p1), (.int p2)] ∧ Z.Warmed39 U.vm ∧ U.heap = h0) (fun _ _ _ _ _ => True) (fun _ U o U' => ∃ v L, o = .returned v ∧ Q8 p1 p2 h0 n0 v U'.heap L ∧ FrameEnd U o U' L ({ frames := 0, cells := 0, slots := 0, locals := 0 } : Room).cells ({ frames := 0, cells := 0, slots := 0, locals := 0 } : Room).slots) := by
  refine MetFree.of_bodySF (Jvm.Free.JP.mathPlain rfl (by decide +kernel)) hisR ?_
  intro p e s m args below meth c s₁ Bd hml0 hP hK
  obtain ⟨rfl, hZ, hh⟩ := hP
  have hx := Bd.exec
  have hby := Bd.bytes
  have hml : c.maxLocals = 2 := hml0
  have hown : s.vm.findClass "java/lang/Math" = some m.cls := findClass_of_methodNamed Bd.named
  have hnm := (name_of_methodNamed Bd.named Bd.method).1
  have X0 : Stand p l e ({ frames := 0, cells := 0, slots := 0, locals := 0 } : Room) s m #[(.int p1), (.int p2)] below meth c s₁ [] 0 0 := Stand.of_body Bd
  have e0 : s₁.heap = h0 := by rw [← hh, Bd.state]; rfl
  have N0 := Fr.nil n0
  have KP0 : Keep h0 h0 [] := Keep.refl h0 _
  obtain ⟨G, hG⟩ : ∃ G : State, G = s₁.setTop (entryFrame m #[(.int p1), (.int p2)] 2) := ⟨_, rfl⟩
  have pre0 : ∀ t, Steps p.tables e below (s₁.setTop (mkF m 0 #[.val (.int p1), .val (.int p2)] [])) t → Steps p.tables e below G t := fun t k => hG ▸ castTop (ef_rm8 m p1 p2) k
  have K1 : ∀ t, Steps p.tables e below (s₁.setTop (mkF m 2 #[.val (.int p1), .val (.int p2)] [(.int p2), (.int p1)])) t → Steps p.tables e below G t := by
    intro t k
    refine pre0 t ?_
    show Steps p.tables e below (s₁.setTop (mkF m 0 #[.val (.int p1), .val (.int p2)] [])) _
    refine XS.iloadN X0.here hx rfl (hb hby d8_0) rfl ?_
    show Steps p.tables e below (s₁.setTop (mkF m 1 #[.val (.int p1), .val (.int p2)] [(.int p1)])) _
    refine XS.iloadN X0.here hx rfl (hb hby d8_1) rfl ?_
    show Steps p.tables e below (s₁.setTop (mkF m 2 #[.val (.int p1), .val (.int p2)] [(.int p2), (.int p1)])) _
    exact k
  by_cases hc2 : p2 < p1
  · obtain ⟨fs, hr, hrun, hended, hW, hsame⟩ := X0.leave (v := some (.int p2)) (fun h => by rw [Bd.returns] at h; cases h)
    have KF := K1
    rw [hG] at KF
    refine ⟨_, _, KF _ ?_, hrun, hended, _, _, rfl, ?_, ⟨_, rfl⟩, hW, hsame.mono (by decide) (by decide)⟩
    · show Steps p.tables e below (s₁.setTop (mkF m 2 #[.val (.int p1), .val (.int p2)] [(.int p2), (.int p1)])) _
      refine XS.icmpYes X0.here hx rfl (pc0 := 2) (pc' := 9) rfl (hb hby d8_2) rfl (tlt hc2).2.2.1 (by decide) (by decide) ?_
      show Steps p.tables e below (s₁.setTop (mkF m 9 #[.val (.int p1), .val (.int p2)] [])) _
      refine XS.iloadN X0.here hx rfl (hb hby d8_9) rfl ?_
      show Steps p.tables e below (s₁.setTop (mkF m 10 #[.val (.int p1), .val (.int p2)] [(.int p2)])) _
      exact own_retI X0 hx Bd.returns (hb hby d8_10) hr
    · show Q8 p1 p2 h0 n0 _ s₁.heap _
      rw [e0]
      exact ⟨by simp only [if_pos hc2], N0, rfl⟩
  · obtain ⟨fs, hr, hrun, hended, hW, hsame⟩ := X0.leave (v := some (.int p1)) (fun h => by rw [Bd.returns] at h; cases h)
    have KF := K1
    rw [hG] at KF
    refine ⟨_, _, KF _ ?_, hrun, hended, _, _, rfl, ?_, ⟨_, rfl⟩, hW, hsame.mono (by decide) (by decide)⟩
    · show Steps p.tables e below (s₁.setTop (mkF m 2 #[.val (.int p1), .val (.int p2)] [(.int p2), (.int p1)])) _
      refine XS.icmpNo X0.here hx rfl (hb hby d8_2) rfl (flt hc2).2.2.1 ?_
      show Steps p.tables e below (s₁.setTop (mkF m 5 #[.val (.int p1), .val (.int p2)] [])) _
      refine XS.iloadN X0.here hx rfl (hb hby d8_5) rfl ?_
      show Steps p.tables e below (s₁.setTop (mkF m 6 #[.val (.int p1), .val (.int p2)] [(.int p1)])) _
      refine XS.goto X0.here hx rfl (pc0 := 6) (pc' := 10) rfl (hb hby d8_6) (by decide) (by decide) ?_
      show Steps p.tables e below (s₁.setTop (mkF m 10 #[.val (.int p1), .val (.int p2)] [(.int p1)])) _
      exact own_retI X0 hx Bd.returns (hb hby d8_10) hr
    · show Q8 p1 p2 h0 n0 _ s₁.heap _
      rw [e0]
      exact ⟨by simp only [if_neg hc2], N0, rfl⟩
def Q2 (Z : State) (a1 : Addr) (p2 : Int32) (h0 : Heap) (n0 : Nat) (v : Option Value) (h : Heap) (L : List Loc) : Prop := ∃ (b : Addr) (k : ClassId), v = none ∧ Fr n0 L ∧ Keep h0 h [a1] ∧ h0.size ≤ b ∧ Exa Z h a1 "org/arborlog/pattern/LineText" ∧ Fld Z h a1 "org/arborlog/pattern/LineText" "chars" "[C" (.ref b) ∧ Fld Z h a1 "org/arborlog/pattern/LineText" "length" "I" (.int (0 : Int32)) ∧ Arv Z h b k .char p2 [] (Value.int (0 : Int32))
theorem d2_0 : decode prog_20_method_1_code 0 = .ok (.aload_n 0, 1) := by decide +kernel
theorem d2_1 : decode prog_20_method_1_code 1 = .ok (.invokespecial 1, 3) := by decide +kernel
theorem d2_4 : decode prog_20_method_1_code 4 = .ok (.aload_n 0, 1) := by decide +kernel
theorem d2_5 : decode prog_20_method_1_code 5 = .ok (.iload_n 1, 1) := by decide +kernel
theorem d2_6 : decode prog_20_method_1_code 6 = .ok (.newarray .char, 2) := by decide +kernel
theorem d2_8 : decode prog_20_method_1_code 8 = .ok (.putfield 7, 3) := by decide +kernel
theorem d2_11 : decode prog_20_method_1_code 11 = .ok (.return_, 1) := by decide +kernel
theorem pn_org_arborlog_pattern_LineText : plainName "org/arborlog/pattern/LineText" = true := by first | (simp [plainName, overriddenIn]; done) | decide +kernel
theorem ef_rm2 (m : MethodId) (x0 : Addr) (x1 : Int32) : entryFrame m #[(.ref x0), (.int x1)] 2 = mkF m 0 #[.val (.ref x0), .val (.int x1)] [] := by first | (simp [entryFrame, mkF, argsToLocals, Value.category]; done) | rfl
set_option maxRecDepth 65536 in
set_option maxHeartbeats 40000000 in
theorem rm2 (l : Launch) (Z : State) (a0 : Array Value) (hw : ∀ d ∈ tables_1, d.before a0 Z = true) (ws : List Jvm.Cond) (a1 : Addr) (p2 : Int32) (h0 : Heap) (n0 : Nat) (Z0 : n0 ≤ h0.size) (E1 : Exa Z h0 a1 "org/arborlog/pattern/LineText") (F1 : Fld Z h0 a1 "org/arborlog/pattern/LineText" "chars" "[C" .null) (F2 : Fld Z h0 a1 "org/arborlog/pattern/LineText" "length" "I" (.int (0 : Int32))) (g1 : n0 ≤ a1) (hp0 : ¬ p2 < 0) (hp8 : p2.toNatClampNeg ≤ 8) :
    MetFree l (⟨"org/arborlog/pattern/LineText", "<init>", "(I)V"⟩ : MethodName) (head1 (Jvm.Cond.code (⟨"org/arborlog/pattern/LineText", "<init>", "(I)V"⟩ : MethodName) prog_20_method_1_code 2 none :: ws) ({ frames := 1, cells := 1, slots := 8, locals := 12 } : Room)) (fun a U => a = #[(.ref a1), (.int p2)] ∧ Z.Warmed39 U.vm ∧ U.heap = h0) (fun _ _ _ _ _ => True) (fun _ U o U' => ∃ v L, o = .returned v ∧ Q2 Z a1 p2 h0 n0 v U'.heap L ∧ FrameEnd U o U' L ({ frames := 1, cells := 1, slots := 8, locals := 12 } : Room).cells ({ frames := 1, cells := 1, slots := 8, locals := 12 } : Room).slots) := by
  refine MetFree.of_bodySF (plainFor_of_name pn_org_arborlog_pattern_LineText) hisR ?_
  intro p e s m args below meth c s₁ Bd hml0 hP hK
  obtain ⟨rfl, hZ, hh⟩ := hP
  have hx := Bd.exec
  have hby := Bd.bytes
  have hml : c.maxLocals = 2 := hml0
  have hown : s.vm.findClass "org/arborlog/pattern/LineText" = some m.cls := findClass_of_methodNamed Bd.named
  have hnm := (name_of_methodNamed Bd.named Bd.method).1
  have X0 : Stand p l e ({ frames := 1, cells := 1, slots := 8, locals := 12 } : Room) s m #[(.ref a1), (.int p2)] below meth c s₁ [] 0 0 := Stand.of_body Bd
  have e0 : s₁.heap = h0 := by rw [← hh, Bd.state]; rfl
  have N0 := Fr.nil n0
  have KP0 : Keep h0 h0 [a1] := Keep.refl h0 _
  obtain ⟨G, hG⟩ : ∃ G : State, G = s₁.setTop (entryFrame m #[(.ref a1), (.int p2)] 2) := ⟨_, rfl⟩
  have pre0 : ∀ t, Steps p.tables e below (s₁.setTop (mkF m 0 #[.val (.ref a1), .val (.int p2)] [])) t → Steps p.tables e below G t := fun t k => hG ▸ castTop (ef_rm2 m a1 p2) k
  have K1 : ∀ t, Steps p.tables e below (s₁.setTop (mkF m 1 #[.val (.ref a1), .val (.int p2)] [(.ref a1)])) t → Steps p.tables e below G t := by
    intro t k
    refine pre0 t ?_
    show Steps p.tables e below (s₁.setTop (mkF m 0 #[.val (.ref a1), .val (.int p2)] [])) _
    refine XS.aloadN X0.here hx rfl (hb hby d2_0) rfl rfl ?_
    show Steps p.tables e below (s₁.setTop (mkF m 1 #[.val (.ref a1), .val (.int p2)] [(.ref a1)])) _
    exact k
  obtain ⟨T2, X2, e2, st2⟩ := initO X0 hx hZ hown (hw _ (List.mem_of_getElem? (i := 14) rfl)) (hw _ (List.mem_of_getElem? (i := 15) rfl)) (hw _ (List.mem_of_getElem? (i := 16) rfl)) e0 (g := (mkF m 1 #[.val (.ref a1), .val (.int p2)] [(.ref a1)])) rfl (by rw [hml]; rfl) rfl (hb hby d2_1) (by decide) (W := 0) (by show 2 * 0 + _ ≤ _; exact Nat.le_of_eq rfl) (by decide)
  have K3 : ∀ t, Steps p.tables e below (T2.setTop (mkF m 4 #[.val (.ref a1), .val (.int p2)] [])) t → Steps p.tables e below G t := fun t k => K1 t (st2 t k)
  have K4 : ∀ t, Steps p.tables e below (T2.setTop (mkF m 6 #[.val (.ref a1), .val (.int p2)] [(.int p2), (.ref a1)])) t → Steps p.tables e below G t := by
    intro t k
    refine K3 t ?_
    show Steps p.tables e below (T2.setTop (mkF m 4 #[.val (.ref a1), .val (.int p2)] [])) _
    refine XS.aloadN X2.here hx rfl (hb hby d2_4) rfl rfl ?_
    show Steps p.tables e below (T2.setTop (mkF m 5 #[.val (.ref a1), .val (.int p2)] [(.ref a1)])) _
    refine XS.iloadN X2.here hx rfl (hb hby d2_5) rfl ?_
    show Steps p.tables e below (T2.setTop (mkF m 6 #[.val (.ref a1), .val (.int p2)] [(.int p2), (.ref a1)])) _
    exact k
  obtain ⟨T5, h5, kn5, X5, e5, E5, A5, st5⟩ := newP X2 hx hZ (hw _ (List.mem_of_getElem? (i := 0) rfl)) e2 (g := (mkF m 6 #[.val (.ref a1), .val (.int p2)] [(.int p2), (.ref a1)])) rfl (hb hby d2_6) rfl hp0 (cap := 8) hp8 (by decide) (by decide) (by decide)
  obtain ⟨b5, g5⟩ : ∃ z, z = h0.size := ⟨_, rfl⟩
  rw [← g5] at A5 st5
  have ne_a1_b5 : a1 ≠ b5 := Nat.ne_of_lt (Nat.lt_of_lt_of_le E1.lt (Nat.le_of_eq g5.symm))
  have g_b5 : n0 ≤ b5 := Nat.le_trans Z0 (Nat.le_of_eq g5.symm)
  have sz_b5 : h0.size ≤ b5 := Nat.le_trans KP0.1 (Nat.le_of_eq g5.symm)
  have f6 := E1.ext E5
  have f7 := F1.ext E5
  have f8 := F2.ext E5
  have Z9 : n0 ≤ h5.size := Nat.le_trans Z0 E5.1
  have KP10 : Keep h0 h5 [a1] := KP0.ext E5
  have K11 : ∀ t, Steps p.tables e below (T5.setTop (mkF m 8 #[.val (.ref a1), .val (.int p2)] [(.ref b5), (.ref a1)])) t → Steps p.tables e below G t := fun t k => K4 t (st5 t k)
  have V5 : Arv Z h5 b5 kn5 .char p2 [] (.int (0 : Int32)) := Arv.new A5 hp0
  obtain ⟨T12, h12, X12, e12, W12, st12⟩ := putF X5 hx hZ hown (host := "") (Or.inl (hw _ (List.mem_of_getElem? (i := 17) rfl))) Via.refl e5 f7 f6 (Or.inl (hw _ (List.mem_of_getElem? (i := 18) rfl))) (hw _ (List.mem_of_getElem? (i := 9) rfl)) (ty := (.array .char)) (by decide) rfl rfl (g := (mkF m 8 #[.val (.ref a1), .val (.int p2)] [(.ref b5), (.ref a1)])) rfl rfl (hb hby d2_8)
  have K13 : ∀ t, Steps p.tables e below (T12.setTop (mkF m 11 #[.val (.ref a1), .val (.int p2)] [])) t → Steps p.tables e below G t := fun t k => K11 t (st12 t k)
  have f14 := f6.wr W12
  have f15 := f7.same W12
  have f16 := f8.other W12 (Or.inr (slot_ne (Or.inl (hw _ (List.mem_of_getElem? (i := 25) rfl))) (Or.inl (hw _ (List.mem_of_getElem? (i := 18) rfl))) (by decide) (t := .int) (t' := (.array .char)) (by decide) (by decide)))
  have f17 := V5.other W12 (Ne.symm ne_a1_b5)
  have Z18 : n0 ≤ h12.size := Nat.le_trans Z9 (Keep.of_wr W12).1
  have KP19 : Keep h0 h12 [a1] := KP10.wr W12 (Or.inl (List.mem_of_getElem? (i := 0) rfl))
  have N20 := Fr.snoc X12 N0 g1
  obtain ⟨fs, hr, hrun, hended, hW, hsame⟩ := X12.leave (v := none) (fun _ => rfl)
  have KF := K13
  rw [hG] at KF
  refine ⟨_, _, KF _ ?_, hrun, hended, _, _, rfl, ?_, ⟨_, rfl⟩, hW, hsame.mono (by decide) (by decide)⟩
  · show Steps p.tables e below (T12.setTop (mkF m 11 #[.val (.ref a1), .val (.int p2)] [])) _
    exact X12.returnOut hx Bd.returns (hb hby d2_11) hr
  · show Q2 Z a1 p2 h0 n0 _ T12.heap _
    rw [e12]
    exact ⟨b5, _, rfl, N20, KP19, sz_b5, f14, f15, f16, f17⟩
def Q7 (Z : State) (z p2 : Int32) (vs : List Value) (h0 : Heap) (n0 : Nat) (v : Option Value) (h : Heap) (L : List Loc) : Prop := ∃ (b : Addr) (k : ClassId) (vs' : List Value), v = some (.ref b) ∧ Fr n0 L ∧ Keep h0 h [] ∧ h0.size ≤ b ∧ Arv Z h b k .char p2 vs' (Value.int (0 : Int32)) ∧ ∀ i : Nat, i < z.toNatClampNeg → vs'.getD i (Value.int (0 : Int32)) = vs.getD i (Value.int (0 : Int32))
theorem d7_0 : decode jdk_65_method_125_code 0 = .ok (.iload_n 1, 1) := by decide +kernel
theorem d7_1 : decode jdk_65_method_125_code 1 = .ok (.aload_n 0, 1) := by decide +kernel
theorem d7_2 : decode jdk_65_method_125_code 2 = .ok (.arraylength, 1) := by decide +kernel
theorem d7_3 : decode jdk_65_method_125_code 3 = .ok (.if_icmp .ne 11, 3) := by decide +kernel
theorem d7_6 : decode jdk_65_method_125_code 6 = .ok (.aload_n 0, 1) := by decide +kernel
theorem d7_7 : decode jdk_65_method_125_code 7 = .ok (.invokevirtual 322, 3) := by decide +kernel
theorem d7_10 : decode jdk_65_method_125_code 10 = .ok (.checkcast 323, 3) := by decide +kernel
theorem d7_13 : decode jdk_65_method_125_code 13 = .ok (.areturn, 1) := by decide +kernel
theorem d7_14 : decode jdk_65_method_125_code 14 = .ok (.iload_n 1, 1) := by decide +kernel
theorem d7_15 : decode jdk_65_method_125_code 15 = .ok (.newarray .char, 2) := by decide +kernel
theorem d7_17 : decode jdk_65_method_125_code 17 = .ok (.astore_n 2, 1) := by decide +kernel
theorem d7_18 : decode jdk_65_method_125_code 18 = .ok (.aload_n 0, 1) := by decide +kernel
theorem d7_19 : decode jdk_65_method_125_code 19 = .ok (.iconst 0, 1) := by decide +kernel
theorem d7_20 : decode jdk_65_method_125_code 20 = .ok (.aload_n 2, 1) := by decide +kernel
theorem d7_21 : decode jdk_65_method_125_code 21 = .ok (.iconst 0, 1) := by decide +kernel
theorem d7_22 : decode jdk_65_method_125_code 22 = .ok (.aload_n 0, 1) := by decide +kernel
theorem d7_23 : decode jdk_65_method_125_code 23 = .ok (.arraylength, 1) := by decide +kernel
theorem d7_24 : decode jdk_65_method_125_code 24 = .ok (.iload_n 1, 1) := by decide +kernel
theorem d7_25 : decode jdk_65_method_125_code 25 = .ok (.invokestatic 304, 3) := by decide +kernel
theorem d7_28 : decode jdk_65_method_125_code 28 = .ok (.invokestatic 150, 3) := by decide +kernel
theorem d7_31 : decode jdk_65_method_125_code 31 = .ok (.aload_n 2, 1) := by decide +kernel
theorem d7_32 : decode jdk_65_method_125_code 32 = .ok (.areturn, 1) := by decide +kernel
theorem pn_java_util_Arrays : plainName "java/util/Arrays" = true := by first | (simp [plainName, overriddenIn]; done) | decide +kernel
theorem pd_0 : parseMethodDescriptor "(II)I" = some ⟨[.int, .int], some .int⟩ := by decide +kernel
theorem ef_rm7 (m : MethodId) (x0 : Addr) (x1 : Int32) : entryFrame m #[(.ref x0), (.int x1)] 3 = mkF m 0 #[.val (.ref x0), .val (.int x1), .unset] [] := by first | (simp [entryFrame, mkF, argsToLocals, Value.category]; done) | rfl
set_option maxRecDepth 65536 in
set_option maxHeartbeats 40000000 in
theorem rm7 (l : Launch) (Z : State) (a0 : Array Value) (hw : ∀ d ∈ tables_1, d.before a0 Z = true) (ws : List Jvm.Cond) (a1 : Addr) (p2 : Int32) (k : ClassId) (z : Int32) (vs : List Value) (h0 : Heap) (n0 : Nat) (Z0 : n0 ≤ h0.size) (V1 : Arv Z h0 a1 k .char z vs (Value.int (0 : Int32))) (hlt : z < p2) (hz0 : ¬ z < 0) (hp0 : ¬ p2 < 0) (hp8 : p2.toNatClampNeg ≤ 10) :
    MetFree l (⟨"java/util/Arrays", "copyOf", "([CI)[C"⟩ : MethodName) (head1 (Jvm.Cond.code (⟨"java/util/Arrays", "copyOf", "([CI)[C"⟩ : MethodName) jdk_65_method_125_code 3 (some (.array .char)) :: ws) ({ frames := 1, cells := 1, slots := 10, locals := 18 } : Room)) (fun a U => a = #[(.ref a1), (.int p2)] ∧ Z.Warmed39 U.vm ∧ U.heap = h0) (fun _ _ _ _ _ => True) (fun _ U o U' => ∃ v L, o = .returned v ∧ Q7 Z z p2 vs h0 n0 v U'.heap L ∧ FrameEnd U o U' L ({ frames := 1, cells := 1, slots := 10, locals := 18 } : Room).cells ({ frames := 1, cells := 1, slots := 10, locals := 18 } : Room).slots) := by
  refine MetFree.of_bodySF (plainFor_of_name pn_java_util_Arrays) hisR ?_
  intro p e s m args below meth c s₁ Bd hml0 hP hK
  obtain ⟨rfl, hZ, hh⟩ := hP
  have hx := Bd.exec
  have hby := Bd.bytes
  have hml : c.maxLocals = 3 := hml0
  have hown : s.vm.findClass "java/util/Arrays" = some m.cls := findClass_of_methodNamed Bd.named
  have hnm := (name_of_methodNamed Bd.named Bd.method).1
  have X0 : Stand p l e ({ frames := 1, cells := 1, slots := 10, locals := 18 } : Room) s m #[(.ref a1), (.int p2)] below meth c s₁ [] 0 0 := Stand.of_body Bd
  have e0 : s₁.heap = h0 := by rw [← hh, Bd.state]; rfl
  have N0 := Fr.nil n0
  have KP0 : Keep h0 h0 [] := Keep.refl h0 _
  obtain ⟨G, hG⟩ : ∃ G : State, G = s₁.setTop (entryFrame m #[(.ref a1), (.int p2)] 3) := ⟨_, rfl⟩
  have pre0 : ∀ t, Steps p.tables e below (s₁.setTop (mkF m 0 #[.val (.ref a1), .val (.int p2), .unset] [])) t → Steps p.tables e below G t := fun t k => hG ▸ castTop (ef_rm7 m a1 p2) k
  have K1 : ∀ t, Steps p.tables e below (s₁.setTop (mkF m 2 #[.val (.ref a1), .val (.int p2), .unset] [(.ref a1), (.int p2)])) t → Steps p.tables e below G t := by
    intro t k
    refine pre0 t ?_
    show Steps p.tables e below (s₁.setTop (mkF m 0 #[.val (.ref a1), .val (.int p2), .unset] [])) _
    refine XS.iloadN X0.here hx rfl (hb hby d7_0) rfl ?_
    show Steps p.tables e below (s₁.setTop (mkF m 1 #[.val (.ref a1), .val (.int p2), .unset] [(.int p2)])) _
    refine XS.aloadN X0.here hx rfl (hb hby d7_1) rfl rfl ?_
    show Steps p.tables e below (s₁.setTop (mkF m 2 #[.val (.ref a1), .val (.int p2), .unset] [(.ref a1), (.int p2)])) _
    exact k
  obtain ⟨cl2, Ar2, -, S2, M2, -, -⟩ := id V1
  have K3 : ∀ t, Steps p.tables e below (s₁.setTop (mkF m 3 #[.val (.ref a1), .val (.int p2), .unset] [(.int z), (.int p2)])) t → Steps p.tables e below G t := by
    intro t k
    refine K1 t ?_
    refine X0.arraylength hx (by rw [e0]; exact Ar2.1) (State.isArrayOf_alike hZ.alike Ar2.2.1) (g := (mkF m 2 #[.val (.ref a1), .val (.int p2), .unset] [(.ref a1), (.int p2)])) rfl rfl (hb hby d7_2) _ ?_
    rw [len_of S2 M2]
    exact k
  have K4 : ∀ t, Steps p.tables e below (s₁.setTop (mkF m 15 #[.val (.ref a1), .val (.int p2), .unset] [(.int p2)])) t → Steps p.tables e below G t := by
    intro t k
    refine K3 t ?_
    show Steps p.tables e below (s₁.setTop (mkF m 3 #[.val (.ref a1), .val (.int p2), .unset] [(.int z), (.int p2)])) _
    refine XS.icmpYes X0.here hx rfl (pc0 := 3) (pc' := 14) rfl (hb hby d7_3) rfl (feq (fun q : p2 = z => by subst q; exact Int32.lt_irrefl hlt)).2 (by decide) (by decide) ?_
    show Steps p.tables e below (s₁.setTop (mkF m 14 #[.val (.ref a1), .val (.int p2), .unset] [])) _
    refine XS.iloadN X0.here hx rfl (hb hby d7_14) rfl ?_
    show Steps p.tables e below (s₁.setTop (mkF m 15 #[.val (.ref a1), .val (.int p2), .unset] [(.int p2)])) _
    exact k
  obtain ⟨T5, h5, kn5, X5, e5, E5, A5, st5⟩ := newP X0 hx hZ (hw _ (List.mem_of_getElem? (i := 0) rfl)) e0 (g := (mkF m 15 #[.val (.ref a1), .val (.int p2), .unset] [(.int p2)])) rfl (hb hby d7_15) rfl hp0 (cap := 10) hp8 (by decide) (by decide) (by decide)
  obtain ⟨b5, g5⟩ : ∃ z, z = h0.size := ⟨_, rfl⟩
  rw [← g5] at A5 st5
  have ne_a1_b5 : a1 ≠ b5 := Nat.ne_of_lt (Nat.lt_of_lt_of_le V1.lt (Nat.le_of_eq g5.symm))
  have g_b5 : n0 ≤ b5 := Nat.le_trans Z0 (Nat.le_of_eq g5.symm)
  have sz_b5 : h0.size ≤ b5 := Nat.le_trans KP0.1 (Nat.le_of_eq g5.symm)
  have f6 := V1.ext E5
  have Z7 : n0 ≤ h5.size := Nat.le_trans Z0 E5.1
  have KP8 : Keep h0 h5 [] := KP0.ext E5
  have K9 : ∀ t, Steps p.tables e below (T5.setTop (mkF m 17 #[.val (.ref a1), .val (.int p2), .unset] [(.ref b5)])) t → Steps p.tables e below G t := fun t k => K4 t (st5 t k)
  have V5 : Arv Z h5 b5 kn5 .char p2 [] (.int (0 : Int32)) := Arv.new A5 hp0
  have K10 : ∀ t, Steps p.tables e below (T5.setTop (mkF m 23 #[.val (.ref a1), .val (.int p2), .val (.ref b5)] [(.ref a1), (.int (0 : Int32)), (.ref b5), (.int (0 : Int32)), (.ref a1)])) t → Steps p.tables e below G t := by
    intro t k
    refine K9 t ?_
    show Steps p.tables e below (T5.setTop (mkF m 17 #[.val (.ref a1), .val (.int p2), .unset] [(.ref b5)])) _
    refine XS.astoreN X5.here hx rfl (hb hby d7_17) rfl rfl (l' := #[.val (.ref a1), .val (.int p2), .val (.ref b5)]) rfl ?_
    show Steps p.tables e below (T5.setTop (mkF m 18 #[.val (.ref a1), .val (.int p2), .val (.ref b5)] [])) _
    refine XS.aloadN X5.here hx rfl (hb hby d7_18) rfl rfl ?_
    show Steps p.tables e below (T5.setTop (mkF m 19 #[.val (.ref a1), .val (.int p2), .val (.ref b5)] [(.ref a1)])) _
    refine XS.iconst X5.here hx rfl (hb hby d7_19) ?_
    show Steps p.tables e below (T5.setTop (mkF m 20 #[.val (.ref a1), .val (.int p2), .val (.ref b5)] [(.int (0 : Int32)), (.ref a1)])) _
    refine XS.aloadN X5.here hx rfl (hb hby d7_20) rfl rfl ?_
    show Steps p.tables e below (T5.setTop (mkF m 21 #[.val (.ref a1), .val (.int p2), .val (.ref b5)] [(.ref b5), (.int (0 : Int32)), (.ref a1)])) _
    refine XS.iconst X5.here hx rfl (hb hby d7_21) ?_
    show Steps p.tables e below (T5.setTop (mkF m 22 #[.val (.ref a1), .val (.int p2), .val (.ref b5)] [(.int (0 : Int32)), (.ref b5), (.int (0 : Int32)), (.ref a1)])) _
    refine XS.aloadN X5.here hx rfl (hb hby d7_22) rfl rfl ?_
    show Steps p.tables e below (T5.setTop (mkF m 23 #[.val (.ref a1), .val (.int p2), .val (.ref b5)] [(.ref a1), (.int (0 : Int32)), (.ref b5), (.int (0 : Int32)), (.ref a1)])) _
    exact k
  obtain ⟨cl11, Ar11, -, S11, M11, -, -⟩ := id f6
  have K12 : ∀ t, Steps p.tables e below (T5.setTop (mkF m 24 #[.val (.ref a1), .val (.int p2), .val (.ref b5)] [(.int z), (.int (0 : Int32)), (.ref b5), (.int (0 : Int32)), (.ref a1)])) t → Steps p.tables e below G t := by
    intro t k
    refine K10 t ?_
    refine X5.arraylength hx (by rw [e5]; exact Ar11.1) (State.isArrayOf_alike hZ.alike Ar11.2.1) (g := (mkF m 23 #[.val (.ref a1), .val (.int p2), .val (.ref b5)] [(.ref a1), (.int (0 : Int32)), (.ref b5), (.int (0 : Int32)), (.ref a1)])) rfl rfl (hb hby d7_23) _ ?_
    rw [len_of S11 M11]
    exact k
  have K13 : ∀ t, Steps p.tables e below (T5.setTop (mkF m 25 #[.val (.ref a1), .val (.int p2), .val (.ref b5)] [(.int p2), (.int z), (.int (0 : Int32)), (.ref b5), (.int (0 : Int32)), (.ref a1)])) t → Steps p.tables e below G t := by
    intro t k
    refine K12 t ?_
    show Steps p.tables e below (T5.setTop (mkF m 24 #[.val (.ref a1), .val (.int p2), .val (.ref b5)] [(.int z), (.int (0 : Int32)), (.ref b5), (.int (0 : Int32)), (.ref a1)])) _
    refine XS.iloadN X5.here hx rfl (hb hby d7_24) rfl ?_
    show Steps p.tables e below (T5.setTop (mkF m 25 #[.val (.ref a1), .val (.int p2), .val (.ref b5)] [(.int p2), (.int z), (.int (0 : Int32)), (.ref b5), (.int (0 : Int32)), (.ref a1)])) _
    exact k
  obtain ⟨_, _, ⟨T14, L14, kk14, nn14⟩, -, X14, ⟨Lc14, hQ14, lq14, yq14, zq14⟩, st14⟩ := Jvm.LawKit.callS X5 hx (y := (⟨"java/lang/Math", "min", "(II)I"⟩ : MethodName)) hown (mvT hZ (hw _ (List.mem_of_getElem? (i := 38) rfl))) (mvT hZ (hw _ (List.mem_of_getElem? (i := 39) rfl))) (mvT hZ (hw _ (List.mem_of_getElem? (i := 32) rfl))) (mvT hZ (hw _ (List.mem_of_getElem? (i := 40) rfl))) (by decide) (backOf (W := 4) (rm8 l Z a0 hw [] z p2 h5 n0 Z7 ) hZ (hw _ (List.mem_of_getElem? (i := 40) rfl)) (hw _ (List.mem_of_getElem? (i := 32) rfl)) (by decide) (by decide)) (g := (mkF m 25 #[.val (.ref a1), .val (.int p2), .val (.ref b5)] [(.int p2), (.int z), (.int (0 : Int32)), (.ref b5), (.int (0 : Int32)), (.ref a1)])) rfl (by rw [hml]; rfl) (argsL := [(.int z), (.int p2)]) (rest := [(.int (0 : Int32)), (.ref b5), (.int (0 : Int32)), (.ref a1)]) (lenOf pd_0 rfl) rfl (by show 2 * 0 + _ ≤ _; exact Nat.le_of_eq rfl) (hb hby d7_25) (fun _ _ => ⟨rfl, e5, (by decide : 1 + 0 ≤ _), (by decide : 10 + 0 ≤ _)⟩)
  dsimp only [Pt.U, Pt.locs, Pt.cells, Pt.slots] at X14 lq14 yq14 zq14 st14 hQ14
  subst lq14 yq14 zq14
  obtain ⟨rfl, Nq14, e14⟩ := hQ14
  have N15 := Fr.app N0 Nq14
  have K16 : ∀ t, Steps p.tables e below (T14.setTop (mkF m 28 #[.val (.ref a1), .val (.int p2), .val (.ref b5)] [(.int (if p2 < z then p2 else z)), (.int (0 : Int32)), (.ref b5), (.int (0 : Int32)), (.ref a1)])) t → Steps p.tables e below G t := fun t k => K13 t (st14 _ k)
  have hmin : (if p2 < z then p2 else z) = z := if_neg (fun q => by rw [Int32.lt_iff_toInt_lt] at q hlt; omega)
  have K17 : ∀ t, Steps p.tables e below (T14.setTop (mkF m 28 #[.val (.ref a1), .val (.int p2), .val (.ref b5)] [(.int z), (.int (0 : Int32)), (.ref b5), (.int (0 : Int32)), (.ref a1)])) t → Steps p.tables e below G t := by have q := K16; rw [hmin] at q; exact q
  have VP19 : Arv Z h5 b5 kn5 .char p2 ([] ++ List.replicate 16 (Value.int (0 : Int32))) (Value.int (0 : Int32)) := V5.pad (pad_rep [] (Value.int (0 : Int32)) 16)
  have hz8 : z.toNatClampNeg ≤ p2.toNatClampNeg := by rw [Int32.lt_iff_toInt_lt] at hlt; simp only [Int32.toNatClampNeg]; omega
  obtain ⟨T18, h18, L18, X18, e18, N18, K18, V18, st18⟩ := cpA X14 hx hZ hown (hw _ (List.mem_of_getElem? (i := 41) rfl)) (hw _ (List.mem_of_getElem? (i := 44) rfl)) (hw _ (List.mem_of_getElem? (i := 42) rfl)) (hw _ (List.mem_of_getElem? (i := 43) rfl)) e14 f6 VP19 (Or.inl ⟨rfl, rfl⟩) (by decide) (by decide) hz0 (by show 0 + z.toNatClampNeg ≤ _; omega) (by show 0 + z.toNatClampNeg ≤ _; omega) rfl (by show 0 + z.toNatClampNeg ≤ 16; omega) N15 g_b5 (g := (mkF m 28 #[.val (.ref a1), .val (.int p2), .val (.ref b5)] [(.int z), (.int (0 : Int32)), (.ref b5), (.int (0 : Int32)), (.ref a1)])) rfl (by rw [hml]; rfl) rfl (hb hby d7_28) (by decide) (W := 0) (by show 2 * 0 + _ ≤ _; exact Nat.le_of_eq rfl) (by decide)
  have K20 : ∀ t, Steps p.tables e below (T18.setTop (mkF m 31 #[.val (.ref a1), .val (.int p2), .val (.ref b5)] [])) t → Steps p.tables e below G t := fun t k => K17 t (st18 t k)
  have f21 := f6.keep K18 (ninS ne_a1_b5 nin0)
  have Z22 : n0 ≤ h18.size := Nat.le_trans Z7 K18.1
  have KP23 : Keep h0 h18 [] := KP8.trans K18 (allS (Or.inr sz_b5) all0)
  obtain ⟨fs, hr, hrun, hended, hW, hsame⟩ := X18.leave (v := some (.ref b5)) (fun h => by rw [Bd.returns] at h; cases h)
  have KF := K20
  rw [hG] at KF
  refine ⟨_, _, KF _ ?_, hrun, hended, _, _, rfl, ?_, ⟨_, rfl⟩, hW, hsame.mono (by decide) (by decide)⟩
  · show Steps p.tables e below (T18.setTop (mkF m 31 #[.val (.ref a1), .val (.int p2), .val (.ref b5)] [])) _
    refine XS.aloadN X18.here hx rfl (hb hby d7_31) rfl rfl ?_
    show Steps p.tables e below (T18.setTop (mkF m 32 #[.val (.ref a1), .val (.int p2), .val (.ref b5)] [(.ref b5)])) _
    exact own_retA X18 hx Bd.returns rfl rfl rfl (hb hby d7_32) hr
  · show Q7 Z z p2 vs h0 n0 _ T18.heap _
    rw [e18]
    refine ⟨_, _, _, rfl, N18, KP23, sz_b5, V18, fun i hi => ?_⟩
    rw [own_cp _ _ _ _ _ _ (by show 0 + z.toNatClampNeg ≤ 16; omega)]
    rw [if_neg (show ¬ i < (0 : Int32).toNatClampNeg from Nat.not_lt_zero i), if_pos (show i < (0 : Int32).toNatClampNeg + z.toNatClampNeg by show i < 0 + z.toNatClampNeg; omega)]
    show vs.getD (0 + (i - 0)) _ = _; rw [Nat.zero_add, Nat.sub_zero]
def Q5 (Z : State) (a1 b2 : Addr) (p1 z mL : Int32) (vs : List Value) (h0 : Heap) (n0 : Nat) (v : Option Value) (h : Heap) (L : List Loc) : Prop := ∃ (b : Addr) (k : ClassId) (z' : Int32) (vs' : List Value), v = none ∧ Fr n0 L ∧ Keep h0 h [a1] ∧ (b = b2 ∨ h0.size ≤ b) ∧ Exa Z h a1 "org/arborlog/pattern/LineText" ∧ Fld Z h a1 "org/arborlog/pattern/LineText" "chars" "[C" (.ref b) ∧ Fld Z h a1 "org/arborlog/pattern/LineText" "length" "I" (.int mL) ∧ Arv Z h b k .char z' vs' (Value.int (0 : Int32)) ∧ (¬ z' < p1 ∧ z'.toInt ≤ 10) ∧ ∀ i : Nat, i < z.toNatClampNeg → vs'.getD i (Value.int (0 : Int32)) = vs.getD i (Value.int (0 : Int32))
theorem own_grow {z p nl : Int32} (hz0 : ¬ z < 0) (hp : ¬ p < 0 ∧ p.toInt ≤ 6) (h : z < p) (e : nl = if p < (2 : Int32) * z then (2 : Int32) * z else p) : z < nl ∧ ¬ nl < 0 ∧ nl.toNatClampNeg ≤ 10 ∧ ¬ nl < p ∧ nl.toInt ≤ 10 := by
  have z0 : (0 : Int32).toInt = 0 := rfl
  have z2 : (2 : Int32).toInt = 2 := rfl
  have m := c_imul 2 z
  have r := rng32 ((2 : Int32) * z)
  rw [z2] at m
  simp only [Int32.lt_iff_toInt_lt, Int32.toNatClampNeg] at *
  have mm : ((2 : Int32) * z).toInt = 2 * z.toInt := by omega
  by_cases q : p.toInt < ((2 : Int32) * z).toInt
  · rw [if_pos q] at e; subst e; omega
  · rw [if_neg q] at e; subst e; omega
theorem d5_0 : decode prog_20_method_14_code 0 = .ok (.iload_n 1, 1) := by decide +kernel
theorem d5_1 : decode prog_20_method_14_code 1 = .ok (.ifCond .ge 13, 3) := by decide +kernel
theorem d5_4 : decode prog_20_method_14_code 4 = .ok (.new 58, 3) := by decide +kernel
theorem d5_7 : decode prog_20_method_14_code 7 = .ok (.dup, 1) := by decide +kernel
theorem d5_8 : decode prog_20_method_14_code 8 = .ok (.ldc 60, 2) := by decide +kernel
theorem d5_10 : decode prog_20_method_14_code 10 = .ok (.invokespecial 62, 3) := by decide +kernel
theorem d5_13 : decode prog_20_method_14_code 13 = .ok (.athrow, 1) := by decide +kernel
theorem d5_14 : decode prog_20_method_14_code 14 = .ok (.iload_n 1, 1) := by decide +kernel
theorem d5_15 : decode prog_20_method_14_code 15 = .ok (.aload_n 0, 1) := by decide +kernel
theorem d5_16 : decode prog_20_method_14_code 16 = .ok (.getfield 7, 3) := by decide +kernel
theorem d5_19 : decode prog_20_method_14_code 19 = .ok (.arraylength, 1) := by decide +kernel
theorem d5_20 : decode prog_20_method_14_code 20 = .ok (.if_icmp .le 25, 3) := by decide +kernel
theorem d5_23 : decode prog_20_method_14_code 23 = .ok (.aload_n 0, 1) := by decide +kernel
theorem d5_24 : decode prog_20_method_14_code 24 = .ok (.aload_n 0, 1) := by decide +kernel
theorem d5_25 : decode prog_20_method_14_code 25 = .ok (.getfield 7, 3) := by decide +kernel
theorem d5_28 : decode prog_20_method_14_code 28 = .ok (.iload_n 1, 1) := by decide +kernel
theorem d5_29 : decode prog_20_method_14_code 29 = .ok (.iconst 2, 1) := by decide +kernel
theorem d5_30 : decode prog_20_method_14_code 30 = .ok (.aload_n 0, 1) := by decide +kernel
theorem d5_31 : decode prog_20_method_14_code 31 = .ok (.getfield 7, 3) := by decide +kernel
theorem d5_34 : decode prog_20_method_14_code 34 = .ok (.arraylength, 1) := by decide +kernel
theorem d5_35 : decode prog_20_method_14_code 35 = .ok (.imul, 1) := by decide +kernel
theorem d5_36 : decode prog_20_method_14_code 36 = .ok (.invokestatic 65, 3) := by decide +kernel
theorem d5_39 : decode prog_20_method_14_code 39 = .ok (.invokestatic 71, 3) := by decide +kernel
theorem d5_42 : decode prog_20_method_14_code 42 = .ok (.putfield 7, 3) := by decide +kernel
theorem d5_45 : decode prog_20_method_14_code 45 = .ok (.return_, 1) := by decide +kernel
theorem pd_1 : parseMethodDescriptor "([CI)[C" = some ⟨[(.array .char), .int], some (.array .char)⟩ := by decide +kernel
theorem ef_rm5 (m : MethodId) (x0 : Addr) (x1 : Int32) : entryFrame m #[(.ref x0), (.int x1)] 2 = mkF m 0 #[.val (.ref x0), .val (.int x1)] [] := by first | (simp [entryFrame, mkF, argsToLocals, Value.category]; done) | rfl
set_option maxRecDepth 65536 in
set_option maxHeartbeats 40000000 in
theorem rm5 (l : Launch) (Z : State) (a0 : Array Value) (hw : ∀ d ∈ tables_1, d.before a0 Z = true) (ws : List Jvm.Cond) (a1 : Addr) (p1 : Int32) (b2 : Addr) (k : ClassId) (z mL : Int32) (vs : List Value) (h0 : Heap) (n0 : Nat) (Z0 : n0 ≤ h0.size) (E1 : Exa Z h0 a1 "org/arborlog/pattern/LineText") (F1 : Fld Z h0 a1 "org/arborlog/pattern/LineText" "chars" "[C" (.ref b2)) (F2 : Fld Z h0 a1 "org/arborlog/pattern/LineText" "length" "I" (.int mL)) (V2 : Arv Z h0 b2 k .char z vs (Value.int (0 : Int32))) (ne12 : a1 ≠ b2) (g1 : n0 ≤ a1) (hp : ¬ p1 < 0 ∧ p1.toInt ≤ 6) (hz0 : ¬ z < 0) (hz8 : z.toInt ≤ 10) :
    MetFree l (⟨"org/arborlog/pattern/LineText", "ensureCapacity", "(I)V"⟩ : MethodName) (head1 (Jvm.Cond.code (⟨"org/arborlog/pattern/LineText", "ensureCapacity", "(I)V"⟩ : MethodName) prog_20_method_14_code 2 none :: ws) ({ frames := 2, cells := 1, slots := 10, locals := 33 } : Room)) (fun a U => a = #[(.ref a1), (.int p1)] ∧ Z.Warmed39 U.vm ∧ U.heap = h0) (fun _ _ _ _ _ => True) (fun _ U o U' => ∃ v L, o = .returned v ∧ Q5 Z a1 b2 p1 z mL vs h0 n0 v U'.heap L ∧ FrameEnd U o U' L ({ frames := 2, cells := 1, slots := 10, locals := 33 } : Room).cells ({ frames := 2, cells := 1, slots := 10, locals := 33 } : Room).slots) := by
  refine MetFree.of_bodySF (plainFor_of_name pn_org_arborlog_pattern_LineText) hisR ?_
  intro p e s m args below meth c s₁ Bd hml0 hP hK
  obtain ⟨rfl, hZ, hh⟩ := hP
  have hx := Bd.exec
  have hby := Bd.bytes
  have hml : c.maxLocals = 2 := hml0
  have hown : s.vm.findClass "org/arborlog/pattern/LineText" = some m.cls := findClass_of_methodNamed Bd.named
  have hnm := (name_of_methodNamed Bd.named Bd.method).1
  have X0 : Stand p l e ({ frames := 2, cells := 1, slots := 10, locals := 33 } : Room) s m #[(.ref a1), (.int p1)] below meth c s₁ [] 0 0 := Stand.of_body Bd
  have e0 : s₁.heap = h0 := by rw [← hh, Bd.state]; rfl
  have N0 := Fr.nil n0
  have KP0 : Keep h0 h0 [a1] := Keep.refl h0 _
  obtain ⟨G, hG⟩ : ∃ G : State, G = s₁.setTop (entryFrame m #[(.ref a1), (.int p1)] 2) := ⟨_, rfl⟩
  have pre0 : ∀ t, Steps p.tables e below (s₁.setTop (mkF m 0 #[.val (.ref a1), .val (.int p1)] [])) t → Steps p.tables e below G t := fun t k => hG ▸ castTop (ef_rm5 m a1 p1) k
  have K1 : ∀ t, Steps p.tables e below (s₁.setTop (mkF m 16 #[.val (.ref a1), .val (.int p1)] [(.ref a1), (.int p1)])) t → Steps p.tables e below G t := by
    intro t k
    refine pre0 t ?_
    show Steps p.tables e below (s₁.setTop (mkF m 0 #[.val (.ref a1), .val (.int p1)] [])) _
    refine XS.iloadN X0.here hx rfl (hb hby d5_0) rfl ?_
    show Steps p.tables e below (s₁.setTop (mkF m 1 #[.val (.ref a1), .val (.int p1)] [(.int p1)])) _
    refine XS.ifYes X0.here hx rfl (pc0 := 1) (pc' := 14) rfl (hb hby d5_1) rfl ((if0 _ _).trans (flt hp.1).2.1) (by decide) (by decide) ?_
    show Steps p.tables e below (s₁.setTop (mkF m 14 #[.val (.ref a1), .val (.int p1)] [])) _
    refine XS.iloadN X0.here hx rfl (hb hby d5_14) rfl ?_
    show Steps p.tables e below (s₁.setTop (mkF m 15 #[.val (.ref a1), .val (.int p1)] [(.int p1)])) _
    refine XS.aloadN X0.here hx rfl (hb hby d5_15) rfl rfl ?_
    show Steps p.tables e below (s₁.setTop (mkF m 16 #[.val (.ref a1), .val (.int p1)] [(.ref a1), (.int p1)])) _
    exact k
  obtain ⟨T2, X2, e2, st2⟩ := getF X0 hx hZ hown (host := "") (Or.inl (hw _ (List.mem_of_getElem? (i := 17) rfl))) Via.refl e0 F1 (g := (mkF m 16 #[.val (.ref a1), .val (.int p1)] [(.ref a1), (.int p1)])) rfl rfl (hb hby d5_16)
  have K3 : ∀ t, Steps p.tables e below (T2.setTop (mkF m 19 #[.val (.ref a1), .val (.int p1)] [(.ref b2), (.int p1)])) t → Steps p.tables e below G t := fun t k => K1 t (st2 t k)
  obtain ⟨cl4, Ar4, -, S4, M4, -, -⟩ := id V2
  have K5 : ∀ t, Steps p.tables e below (T2.setTop (mkF m 20 #[.val (.ref a1), .val (.int p1)] [(.int z), (.int p1)])) t → Steps p.tables e below G t := by
    intro t k
    refine K3 t ?_
    refine X2.arraylength hx (by rw [e2]; exact Ar4.1) (State.isArrayOf_alike hZ.alike Ar4.2.1) (g := (mkF m 19 #[.val (.ref a1), .val (.int p1)] [(.ref b2), (.int p1)])) rfl rfl (hb hby d5_19) _ ?_
    rw [len_of S4 M4]
    exact k
  by_cases hc6 : z < p1
  · have K7 : ∀ t, Steps p.tables e below (T2.setTop (mkF m 25 #[.val (.ref a1), .val (.int p1)] [(.ref a1), (.ref a1)])) t → Steps p.tables e below G t := by
      intro t k
      refine K5 t ?_
      show Steps p.tables e below (T2.setTop (mkF m 20 #[.val (.ref a1), .val (.int p1)] [(.int z), (.int p1)])) _
      refine XS.icmpNo X2.here hx rfl (hb hby d5_20) rfl (tlt hc6).2.2.2 ?_
      show Steps p.tables e below (T2.setTop (mkF m 23 #[.val (.ref a1), .val (.int p1)] [])) _
      refine XS.aloadN X2.here hx rfl (hb hby d5_23) rfl rfl ?_
      show Steps p.tables e below (T2.setTop (mkF m 24 #[.val (.ref a1), .val (.int p1)] [(.ref a1)])) _
      refine XS.aloadN X2.here hx rfl (hb hby d5_24) rfl rfl ?_
      show Steps p.tables e below (T2.setTop (mkF m 25 #[.val (.ref a1), .val (.int p1)] [(.ref a1), (.ref a1)])) _
      exact k
    obtain ⟨T8, X8, e8, st8⟩ := getF X2 hx hZ hown (host := "") (Or.inl (hw _ (List.mem_of_getElem? (i := 17) rfl))) Via.refl e2 F1 (g := (mkF m 25 #[.val (.ref a1), .val (.int p1)] [(.ref a1), (.ref a1)])) rfl rfl (hb hby d5_25)
    have K9 : ∀ t, Steps p.tables e below (T8.setTop (mkF m 28 #[.val (.ref a1), .val (.int p1)] [(.ref b2), (.ref a1)])) t → Steps p.tables e below G t := fun t k => K7 t (st8 t k)
    have K10 : ∀ t, Steps p.tables e below (T8.setTop (mkF m 31 #[.val (.ref a1), .val (.int p1)] [(.ref a1), (.int (2 : Int32)), (.int p1), (.ref b2), (.ref a1)])) t → Steps p.tables e below G t := by
      intro t k
      refine K9 t ?_
      show Steps p.tables e below (T8.setTop (mkF m 28 #[.val (.ref a1), .val (.int p1)] [(.ref b2), (.ref a1)])) _
      refine XS.iloadN X8.here hx rfl (hb hby d5_28) rfl ?_
      show Steps p.tables e below (T8.setTop (mkF m 29 #[.val (.ref a1), .val (.int p1)] [(.int p1), (.ref b2), (.ref a1)])) _
      refine XS.iconst X8.here hx rfl (hb hby d5_29) ?_
      show Steps p.tables e below (T8.setTop (mkF m 30 #[.val (.ref a1), .val (.int p1)] [(.int (2 : Int32)), (.int p1), (.ref b2), (.ref a1)])) _
      refine XS.aloadN X8.here hx rfl (hb hby d5_30) rfl rfl ?_
      show Steps p.tables e below (T8.setTop (mkF m 31 #[.val (.ref a1), .val (.int p1)] [(.ref a1), (.int (2 : Int32)), (.int p1), (.ref b2), (.ref a1)])) _
      exact k
    obtain ⟨T11, X11, e11, st11⟩ := getF X8 hx hZ hown (host := "") (Or.inl (hw _ (List.mem_of_getElem? (i := 17) rfl))) Via.refl e8 F1 (g := (mkF m 31 #[.val (.ref a1), .val (.int p1)] [(.ref a1), (.int (2 : Int32)), (.int p1), (.ref b2), (.ref a1)])) rfl rfl (hb hby d5_31)
    have K12 : ∀ t, Steps p.tables e below (T11.setTop (mkF m 34 #[.val (.ref a1), .val (.int p1)] [(.ref b2), (.int (2 : Int32)), (.int p1), (.ref b2), (.ref a1)])) t → Steps p.tables e below G t := fun t k => K10 t (st11 t k)
    obtain ⟨cl13, Ar13, -, S13, M13, -, -⟩ := id V2
    have K14 : ∀ t, Steps p.tables e below (T11.setTop (mkF m 35 #[.val (.ref a1), .val (.int p1)] [(.int z), (.int (2 : Int32)), (.int p1), (.ref b2), (.ref a1)])) t → Steps p.tables e below G t := by
      intro t k
      refine K12 t ?_
      refine X11.arraylength hx (by rw [e11]; exact Ar13.1) (State.isArrayOf_alike hZ.alike Ar13.2.1) (g := (mkF m 34 #[.val (.ref a1), .val (.int p1)] [(.ref b2), (.int (2 : Int32)), (.int p1), (.ref b2), (.ref a1)])) rfl rfl (hb hby d5_34) _ ?_
      rw [len_of S13 M13]
      exact k
    have K15 : ∀ t, Steps p.tables e below (T11.setTop (mkF m 36 #[.val (.ref a1), .val (.int p1)] [(.int ((2 : Int32) * z)), (.int p1), (.ref b2), (.ref a1)])) t → Steps p.tables e below G t := by
      intro t k
      refine K14 t ?_
      show Steps p.tables e below (T11.setTop (mkF m 35 #[.val (.ref a1), .val (.int p1)] [(.int z), (.int (2 : Int32)), (.int p1), (.ref b2), (.ref a1)])) _
      refine XS.imul X11.here hx rfl (hb hby d5_35) rfl ?_
      show Steps p.tables e below (T11.setTop (mkF m 36 #[.val (.ref a1), .val (.int p1)] [(.int ((2 : Int32) * z)), (.int p1), (.ref b2), (.ref a1)])) _
      exact k
    obtain ⟨_, _, ⟨T16, L16, kk16, nn16⟩, -, X16, ⟨Lc16, hQ16, lq16, yq16, zq16⟩, st16⟩ := Jvm.LawKit.callS X11 hx (y := (⟨"java/lang/Math", "max", "(II)I"⟩ : MethodName)) hown (mvT hZ (hw _ (List.mem_of_getElem? (i := 30) rfl))) (mvT hZ (hw _ (List.mem_of_getElem? (i := 31) rfl))) (mvT hZ (hw _ (List.mem_of_getElem? (i := 32) rfl))) (mvT hZ (hw _ (List.mem_of_getElem? (i := 33) rfl))) (by decide) (backOf (W := 2) (rm6 l Z a0 hw [] p1 ((2 : Int32) * z) h0 n0 Z0 ) hZ (hw _ (List.mem_of_getElem? (i := 33) rfl)) (hw _ (List.mem_of_getElem? (i := 32) rfl)) (by decide) (by decide)) (g := (mkF m 36 #[.val (.ref a1), .val (.int p1)] [(.int ((2 : Int32) * z)), (.int p1), (.ref b2), (.ref a1)])) rfl (by rw [hml]; rfl) (argsL := [(.int p1), (.int ((2 : Int32) * z))]) (rest := [(.ref b2), (.ref a1)]) (lenOf pd_0 rfl) rfl (by show 2 * 0 + _ ≤ _; exact Nat.le_of_eq rfl) (hb hby d5_36) (fun _ _ => ⟨rfl, e11, (by decide : 0 + 0 ≤ _), (by decide : 0 + 0 ≤ _)⟩)
    dsimp only [Pt.U, Pt.locs, Pt.cells, Pt.slots] at X16 lq16 yq16 zq16 st16 hQ16
    subst lq16 yq16 zq16
    obtain ⟨rfl, Nq16, e16⟩ := hQ16
    have N17 := Fr.app N0 Nq16
    have K18 : ∀ t, Steps p.tables e below (T16.setTop (mkF m 39 #[.val (.ref a1), .val (.int p1)] [(.int (if p1 < ((2 : Int32) * z) then ((2 : Int32) * z) else p1)), (.ref b2), (.ref a1)])) t → Steps p.tables e below G t := fun t k => K15 t (st16 _ k)
    obtain ⟨nl, h_nl⟩ : ∃ z_ : Int32, z_ = (if p1 < ((2 : Int32) * z) then ((2 : Int32) * z) else p1) := ⟨_, rfl⟩
    have K19 : ∀ t, Steps p.tables e below (T16.setTop (mkF m 39 #[.val (.ref a1), .val (.int p1)] [(.int nl), (.ref b2), (.ref a1)])) t → Steps p.tables e below G t := by rw [h_nl]; exact K18
    have hnl := own_grow hz0 hp hc6 h_nl
    obtain ⟨_, _, ⟨T20, L20, kk20, nn20⟩, -, X20, ⟨Lc20, hQ20, lq20, yq20, zq20⟩, st20⟩ := Jvm.LawKit.callS X16 hx (y := (⟨"java/util/Arrays", "copyOf", "([CI)[C"⟩ : MethodName)) hown (mvT hZ (hw _ (List.mem_of_getElem? (i := 34) rfl))) (mvT hZ (hw _ (List.mem_of_getElem? (i := 35) rfl))) (mvT hZ (hw _ (List.mem_of_getElem? (i := 36) rfl))) (mvT hZ (hw _ (List.mem_of_getElem? (i := 37) rfl))) (by decide) (backOf (W := 1) (rm7 l Z a0 hw [] b2 nl k z vs h0 n0 Z0 V2 hnl.1 hz0 hnl.2.1 hnl.2.2.1) hZ (hw _ (List.mem_of_getElem? (i := 37) rfl)) (hw _ (List.mem_of_getElem? (i := 36) rfl)) (by decide) (by decide)) (g := (mkF m 39 #[.val (.ref a1), .val (.int p1)] [(.int nl), (.ref b2), (.ref a1)])) rfl (by rw [hml]; rfl) (argsL := [(.ref b2), (.int nl)]) (rest := [(.ref a1)]) (lenOf pd_1 rfl) rfl (by show 2 * 0 + _ ≤ _; exact Nat.le_of_eq rfl) (hb hby d5_39) (fun _ _ => ⟨rfl, e16, (by decide : 0 + 1 ≤ _), (by decide : 0 + 10 ≤ _)⟩)
    dsimp only [Pt.U, Pt.locs, Pt.cells, Pt.slots] at X20 lq20 yq20 zq20 st20 hQ20
    subst lq20 yq20 zq20
    obtain ⟨b20, kb20, vs20, rfl, Nq20, K20, sz20, Vb20, hc20⟩ := hQ20
    have N21 := Fr.app N17 Nq20
    have ne_a1_b20 : a1 ≠ b20 := Nat.ne_of_lt (Nat.lt_of_lt_of_le E1.lt sz20)
    have ne_b2_b20 : b2 ≠ b20 := Nat.ne_of_lt (Nat.lt_of_lt_of_le V2.lt sz20)
    have g_b20 : n0 ≤ b20 := Nat.le_trans Z0 sz20
    have sz_b20 : h0.size ≤ b20 := Nat.le_trans KP0.1 sz20
    have f22 := E1.keep K20
    have f23 := F1.keep K20 nin0
    have f24 := F2.keep K20 nin0
    have f25 := V2.keep K20 nin0
    have Z26 : n0 ≤ T20.heap.size := Nat.le_trans Z0 K20.1
    have KP27 : Keep h0 T20.heap [a1] := KP0.trans K20 all0
    have K28 : ∀ t, Steps p.tables e below (T20.setTop (mkF m 42 #[.val (.ref a1), .val (.int p1)] [(.ref b20), (.ref a1)])) t → Steps p.tables e below G t := fun t k => K19 t (st20 _ k)
    obtain ⟨T29, h29, X29, e29, W29, st29⟩ := putF X20 hx hZ hown (host := "") (Or.inl (hw _ (List.mem_of_getElem? (i := 17) rfl))) Via.refl rfl f23 f22 (Or.inl (hw _ (List.mem_of_getElem? (i := 18) rfl))) (hw _ (List.mem_of_getElem? (i := 9) rfl)) (ty := (.array .char)) (by decide) rfl rfl (g := (mkF m 42 #[.val (.ref a1), .val (.int p1)] [(.ref b20), (.ref a1)])) rfl rfl (hb hby d5_42)
    have K30 : ∀ t, Steps p.tables e below (T29.setTop (mkF m 45 #[.val (.ref a1), .val (.int p1)] [])) t → Steps p.tables e below G t := fun t k => K28 t (st29 t k)
    have f31 := f22.wr W29
    have f32 := f23.same W29
    have f33 := f24.other W29 (Or.inr (slot_ne (Or.inl (hw _ (List.mem_of_getElem? (i := 25) rfl))) (Or.inl (hw _ (List.mem_of_getElem? (i := 18) rfl))) (by decide) (t := .int) (t' := (.array .char)) (by decide) (by decide)))
    have f34 := f25.other W29 (Ne.symm ne12)
    have f35 := Vb20.other W29 (Ne.symm ne_a1_b20)
    have Z36 : n0 ≤ h29.size := Nat.le_trans Z26 (Keep.of_wr W29).1
    have KP37 : Keep h0 h29 [a1] := KP27.wr W29 (Or.inl (List.mem_of_getElem? (i := 0) rfl))
    have N38 := Fr.snoc X29 N21 g1
    obtain ⟨fs, hr, hrun, hended, hW, hsame⟩ := X29.leave (v := none) (fun _ => rfl)
    have KF := K30
    rw [hG] at KF
    refine ⟨_, _, KF _ ?_, hrun, hended, _, _, rfl, ?_, ⟨_, rfl⟩, hW, hsame.mono (by decide) (by decide)⟩
    · show Steps p.tables e below (T29.setTop (mkF m 45 #[.val (.ref a1), .val (.int p1)] [])) _
      exact X29.returnOut hx Bd.returns (hb hby d5_45) hr
    · show Q5 Z a1 b2 p1 z mL vs h0 n0 _ T29.heap _
      rw [e29]
      exact ⟨_, _, _, _, rfl, N38, KP37, Or.inr sz20, f31, f32, f33, f35, ⟨hnl.2.2.2.1, hnl.2.2.2.2⟩, hc20⟩
  · obtain ⟨fs, hr, hrun, hended, hW, hsame⟩ := X2.leave (v := none) (fun _ => rfl)
    have KF := K5
    rw [hG] at KF
    refine ⟨_, _, KF _ ?_, hrun, hended, _, _, rfl, ?_, ⟨_, rfl⟩, hW, hsame.mono (by decide) (by decide)⟩
    · show Steps p.tables e below (T2.setTop (mkF m 20 #[.val (.ref a1), .val (.int p1)] [(.int z), (.int p1)])) _
      refine XS.icmpYes X2.here hx rfl (pc0 := 20) (pc' := 45) rfl (hb hby d5_20) rfl (flt hc6).2.2.2 (by decide) (by decide) ?_
      show Steps p.tables e below (T2.setTop (mkF m 45 #[.val (.ref a1), .val (.int p1)] [])) _
      exact X2.returnOut hx Bd.returns (hb hby d5_45) hr
    · show Q5 Z a1 b2 p1 z mL vs h0 n0 _ T2.heap _
      rw [e2]
      exact ⟨b2, k, z, vs, rfl, N0, KP0, Or.inl rfl, E1, F1, F2, V2, ⟨hc6, hz8⟩, fun _ _ => rfl⟩
def Q4 (Z : State) (a1 b2 : Addr) (p1 z mL : Int32) (vs : List Value) (h0 : Heap) (n0 : Nat) (v : Option Value) (h : Heap) (L : List Loc) : Prop := ∃ (b : Addr) (k : ClassId) (z' : Int32) (vs' : List Value), v = some (.ref a1) ∧ Fr n0 L ∧ Keep h0 h [a1, b2] ∧ (b = b2 ∨ h0.size ≤ b) ∧ Exa Z h a1 "org/arborlog/pattern/LineText" ∧ Fld Z h a1 "org/arborlog/pattern/LineText" "chars" "[C" (.ref b) ∧ Fld Z h a1 "org/arborlog/pattern/LineText" "length" "I" (.int (mL + (1 : Int32))) ∧ Arv Z h b k .char z' vs' (Value.int (0 : Int32)) ∧ (¬ z' < mL + (1 : Int32) ∧ z'.toInt ≤ 10) ∧ (∀ i : Nat, i < mL.toNatClampNeg → vs'.getD i (Value.int (0 : Int32)) = vs.getD i (Value.int (0 : Int32))) ∧ vs'.getD mL.toNatClampNeg (Value.int (0 : Int32)) = .int (nar .char p1)
theorem own_apl {z m : Int32} (hm : ¬ m < 0 ∧ m.toInt ≤ 4) (hz : ¬ z < m) : (¬ (m + (1 : Int32)) < 0 ∧ (m + (1 : Int32)).toInt ≤ 6) ∧ ¬ z < 0 ∧ (m + (1 : Int32)).toInt = m.toInt + 1 := by
  have z0 : (0 : Int32).toInt = 0 := rfl
  have z1 : (1 : Int32).toInt = 1 := rfl
  have a := c_iadd m 1; have r := rng32 (m + 1)
  simp only [Int32.lt_iff_toInt_lt] at *
  omega
theorem own_apm {z m : Int32} (hm : ¬ m < 0 ∧ m.toInt ≤ 4) (hz : ¬ z < m) {i : Nat} (hi : i < m.toNatClampNeg) : i < z.toNatClampNeg := by
  have z0 : (0 : Int32).toInt = 0 := rfl
  simp only [Int32.lt_iff_toInt_lt, Int32.toNatClampNeg] at *
  omega
theorem own_apb {z m : Int32} (hm : ¬ m < 0 ∧ m.toInt ≤ 4) (hz : ¬ z < m + (1 : Int32)) (hz8 : z.toInt ≤ 10) : (¬ m < 0 ∧ m < z) ∧ m.toNatClampNeg < 16 := by
  have z0 : (0 : Int32).toInt = 0 := rfl
  have z1 : (1 : Int32).toInt = 1 := rfl
  have a := c_iadd m 1; have r := rng32 (m + 1)
  simp only [Int32.lt_iff_toInt_lt, Int32.toNatClampNeg] at *
  omega
theorem d4_0 : decode prog_20_method_7_code 0 = .ok (.aload_n 0, 1) := by decide +kernel
theorem d4_1 : decode prog_20_method_7_code 1 = .ok (.aload_n 0, 1) := by decide +kernel
theorem d4_2 : decode prog_20_method_7_code 2 = .ok (.getfield 13, 3) := by decide +kernel
theorem d4_5 : decode prog_20_method_7_code 5 = .ok (.iconst 1, 1) := by decide +kernel
theorem d4_6 : decode prog_20_method_7_code 6 = .ok (.iadd, 1) := by decide +kernel
theorem d4_7 : decode prog_20_method_7_code 7 = .ok (.invokevirtual 24, 3) := by decide +kernel
theorem d4_10 : decode prog_20_method_7_code 10 = .ok (.aload_n 0, 1) := by decide +kernel
theorem d4_11 : decode prog_20_method_7_code 11 = .ok (.getfield 7, 3) := by decide +kernel
theorem d4_14 : decode prog_20_method_7_code 14 = .ok (.aload_n 0, 1) := by decide +kernel
theorem d4_15 : decode prog_20_method_7_code 15 = .ok (.dup, 1) := by decide +kernel
theorem d4_16 : decode prog_20_method_7_code 16 = .ok (.getfield 13, 3) := by decide +kernel
theorem d4_19 : decode prog_20_method_7_code 19 = .ok (.dup_x1, 1) := by decide +kernel
theorem d4_20 : decode prog_20_method_7_code 20 = .ok (.iconst 1, 1) := by decide +kernel
theorem d4_21 : decode prog_20_method_7_code 21 = .ok (.iadd, 1) := by decide +kernel
theorem d4_22 : decode prog_20_method_7_code 22 = .ok (.putfield 13, 3) := by decide +kernel
theorem d4_25 : decode prog_20_method_7_code 25 = .ok (.iload_n 1, 1) := by decide +kernel
theorem d4_26 : decode prog_20_method_7_code 26 = .ok (.castore, 1) := by decide +kernel
theorem d4_27 : decode prog_20_method_7_code 27 = .ok (.aload_n 0, 1) := by decide +kernel
theorem d4_28 : decode prog_20_method_7_code 28 = .ok (.areturn, 1) := by decide +kernel
theorem pd_2 : parseMethodDescriptor "(I)V" = some ⟨[.int], none⟩ := by decide +kernel
theorem ef_rm4 (m : MethodId) (x0 : Addr) (x1 : Int32) : entryFrame m #[(.ref x0), (.int x1)] 2 = mkF m 0 #[.val (.ref x0), .val (.int x1)] [] := by first | (simp [entryFrame, mkF, argsToLocals, Value.category]; done) | rfl
set_option maxRecDepth 65536 in
set_option maxHeartbeats 40000000 in
theorem rm4 (l : Launch) (Z : State) (a0 : Array Value) (hw : ∀ d ∈ tables_1, d.before a0 Z = true) (ws : List Jvm.Cond) (a1 : Addr) (p1 : Int32) (b2 : Addr) (k : ClassId) (z mL : Int32) (vs : List Value) (h0 : Heap) (n0 : Nat) (Z0 : n0 ≤ h0.size) (E1 : Exa Z h0 a1 "org/arborlog/pattern/LineText") (F1 : Fld Z h0 a1 "org/arborlog/pattern/LineText" "chars" "[C" (.ref b2)) (F2 : Fld Z h0 a1 "org/arborlog/pattern/LineText" "length" "I" (.int mL)) (V2 : Arv Z h0 b2 k .char z vs (Value.int (0 : Int32))) (ne12 : a1 ≠ b2) (g1 : n0 ≤ a1) (g2 : n0 ≤ b2) (hm : ¬ mL < 0 ∧ mL.toInt ≤ 4) (hzm : ¬ z < mL) (hz8 : z.toInt ≤ 10) :
    MetFree l (⟨"org/arborlog/pattern/LineText", "append", "(C)Lorg/arborlog/pattern/LineText;"⟩ : MethodName) (head1 (Jvm.Cond.code (⟨"org/arborlog/pattern/LineText", "append", "(C)Lorg/arborlog/pattern/LineText;"⟩ : MethodName) prog_20_method_7_code 2 (some (.object "org/arborlog/pattern/LineText")) :: ws) ({ frames := 3, cells := 1, slots := 10, locals := 46 } : Room)) (fun a U => a = #[(.ref a1), (.int p1)] ∧ Z.Warmed39 U.vm ∧ U.heap = h0) (fun _ _ _ _ _ => True) (fun _ U o U' => ∃ v L, o = .returned v ∧ Q4 Z a1 b2 p1 z mL vs h0 n0 v U'.heap L ∧ FrameEnd U o U' L ({ frames := 3, cells := 1, slots := 10, locals := 46 } : Room).cells ({ frames := 3, cells := 1, slots := 10, locals := 46 } : Room).slots) := by
  refine MetFree.of_bodySF (plainFor_of_name pn_org_arborlog_pattern_LineText) hisR ?_
  intro p e s m args below meth c s₁ Bd hml0 hP hK
  obtain ⟨rfl, hZ, hh⟩ := hP
  have hx := Bd.exec
  have hby := Bd.bytes
  have hml : c.maxLocals = 2 := hml0
  have hown : s.vm.findClass "org/arborlog/pattern/LineText" = some m.cls := findClass_of_methodNamed Bd.named
  have hnm := (name_of_methodNamed Bd.named Bd.method).1
  have X0 : Stand p l e ({ frames := 3, cells := 1, slots := 10, locals := 46 } : Room) s m #[(.ref a1), (.int p1)] below meth c s₁ [] 0 0 := Stand.of_body Bd
  have e0 : s₁.heap = h0 := by rw [← hh, Bd.state]; rfl
  have N0 := Fr.nil n0
  have KP0 : Keep h0 h0 [a1, b2] := Keep.refl h0 _
  obtain ⟨G, hG⟩ : ∃ G : State, G = s₁.setTop (entryFrame m #[(.ref a1), (.int p1)] 2) := ⟨_, rfl⟩
  have pre0 : ∀ t, Steps p.tables e below (s₁.setTop (mkF m 0 #[.val (.ref a1), .val (.int p1)] [])) t → Steps p.tables e below G t := fun t k => hG ▸ castTop (ef_rm4 m a1 p1) k
  have hl := own_apl hm hzm
  have K1 : ∀ t, Steps p.tables e below (s₁.setTop (mkF m 2 #[.val (.ref a1), .val (.int p1)] [(.ref a1), (.ref a1)])) t → Steps p.tables e below G t := by
    intro t k
    refine pre0 t ?_
    show Steps p.tables e below (s₁.setTop (mkF m 0 #[.val (.ref a1), .val (.int p1)] [])) _
    refine XS.aloadN X0.here hx rfl (hb hby d4_0) rfl rfl ?_
    show Steps p.tables e below (s₁.setTop (mkF m 1 #[.val (.ref a1), .val (.int p1)] [(.ref a1)])) _
    refine XS.aloadN X0.here hx rfl (hb hby d4_1) rfl rfl ?_
    show Steps p.tables e below (s₁.setTop (mkF m 2 #[.val (.ref a1), .val (.int p1)] [(.ref a1), (.ref a1)])) _
    exact k
  obtain ⟨T2, X2, e2, st2⟩ := getF X0 hx hZ hown (host := "") (Or.inl (hw _ (List.mem_of_getElem? (i := 24) rfl))) Via.refl e0 F2 (g := (mkF m 2 #[.val (.ref a1), .val (.int p1)] [(.ref a1), (.ref a1)])) rfl rfl (hb hby d4_2)
  have K3 : ∀ t, Steps p.tables e below (T2.setTop (mkF m 5 #[.val (.ref a1), .val (.int p1)] [(.int mL), (.ref a1)])) t → Steps p.tables e below G t := fun t k => K1 t (st2 t k)
  have K4 : ∀ t, Steps p.tables e below (T2.setTop (mkF m 7 #[.val (.ref a1), .val (.int p1)] [(.int (mL + (1 : Int32))), (.ref a1)])) t → Steps p.tables e below G t := by
    intro t k
    refine K3 t ?_
    show Steps p.tables e below (T2.setTop (mkF m 5 #[.val (.ref a1), .val (.int p1)] [(.int mL), (.ref a1)])) _
    refine XS.iconst X2.here hx rfl (hb hby d4_5) ?_
    show Steps p.tables e below (T2.setTop (mkF m 6 #[.val (.ref a1), .val (.int p1)] [(.int (1 : Int32)), (.int mL), (.ref a1)])) _
    refine XS.iadd X2.here hx rfl (hb hby d4_6) rfl ?_
    show Steps p.tables e below (T2.setTop (mkF m 7 #[.val (.ref a1), .val (.int p1)] [(.int (mL + (1 : Int32))), (.ref a1)])) _
    exact k
  obtain ⟨cq5, q5, q5'⟩ := E1.cell
  obtain ⟨_, _, ⟨T5, L5, kk5, nn5⟩, -, X5, ⟨Lc5, hQ5, lq5, yq5, zq5⟩, st5⟩ := X2.privateBack hx (y := (⟨"org/arborlog/pattern/LineText", "ensureCapacity", "(I)V"⟩ : MethodName)) hown (mvT hZ (hw _ (List.mem_of_getElem? (i := 26) rfl))) (mvT hZ (hw _ (List.mem_of_getElem? (i := 27) rfl))) (own_selp hZ (hw _ (List.mem_of_getElem? (i := 9) rfl)) (hw _ (List.mem_of_getElem? (i := 28) rfl)) (hw _ (List.mem_of_getElem? (i := 27) rfl)) (by decide)) (Cond.privateMethod_at (mvP hZ (hw _ (List.mem_of_getElem? (i := 28) rfl)) (args := #[]))) (mvT hZ (hw _ (List.mem_of_getElem? (i := 29) rfl))) (by decide) (backOf (W := 0) (rm5 l Z a0 hw [] a1 (mL + (1 : Int32)) b2 k z mL vs h0 n0 Z0 E1 F1 F2 V2 ne12 g1 hl.1 hl.2.1 hz8) hZ (hw _ (List.mem_of_getElem? (i := 29) rfl)) (hw _ (List.mem_of_getElem? (i := 10) rfl)) (by decide) (by decide)) (g := (mkF m 7 #[.val (.ref a1), .val (.int p1)] [(.int (mL + (1 : Int32))), (.ref a1)])) rfl (by rw [hml]; rfl) (Steps.refl _) (a := a1) (by rw [e2]; exact q5) q5' (argsL := [(.int (mL + (1 : Int32)))]) (rest := []) (lenOf pd_2 rfl) rfl (by show 2 * 0 + _ ≤ _; exact Nat.le_of_eq rfl) (hb hby d4_7) (fun _ _ => ⟨rfl, e2, (by decide : 0 + 1 ≤ _), (by decide : 0 + 10 ≤ _)⟩)
  dsimp only [Pt.U, Pt.locs, Pt.cells, Pt.slots] at X5 lq5 yq5 zq5 st5 hQ5
  subst lq5 yq5 zq5
  obtain ⟨b5, kb5, zb5, vs5, rfl, Nq5, K5, ob5, E5', Fc5, Fl5, Vb5, hz5, hc5⟩ := hQ5
  have N6 := Fr.app N0 Nq5
  have gb5 : n0 ≤ b5 := ob5.elim (fun q => q ▸ g2) (fun q => Nat.le_trans Z0 q)
  have ne_a1_b5 : a1 ≠ b5 := ob5.elim (fun q => q ▸ ne12) (fun q => Nat.ne_of_lt (Nat.lt_of_lt_of_le E1.lt q))
  have f7 := E1.keep K5
  have Z8 : n0 ≤ T5.heap.size := Nat.le_trans Z0 K5.1
  have KP9 : Keep h0 T5.heap [a1, b2] := KP0.trans K5 (allS (Or.inl (List.mem_of_getElem? (i := 0) rfl)) all0)
  have K10 : ∀ t, Steps p.tables e below (T5.setTop (mkF m 10 #[.val (.ref a1), .val (.int p1)] [])) t → Steps p.tables e below G t := fun t k => K4 t (st5.trans k)
  have K11 : ∀ t, Steps p.tables e below (T5.setTop (mkF m 11 #[.val (.ref a1), .val (.int p1)] [(.ref a1)])) t → Steps p.tables e below G t := by
    intro t k
    refine K10 t ?_
    show Steps p.tables e below (T5.setTop (mkF m 10 #[.val (.ref a1), .val (.int p1)] [])) _
    refine XS.aloadN X5.here hx rfl (hb hby d4_10) rfl rfl ?_
    show Steps p.tables e below (T5.setTop (mkF m 11 #[.val (.ref a1), .val (.int p1)] [(.ref a1)])) _
    exact k
  obtain ⟨T12, X12, e12, st12⟩ := getF X5 hx hZ hown (host := "") (Or.inl (hw _ (List.mem_of_getElem? (i := 17) rfl))) Via.refl rfl Fc5 (g := (mkF m 11 #[.val (.ref a1), .val (.int p1)] [(.ref a1)])) rfl rfl (hb hby d4_11)
  have K13 : ∀ t, Steps p.tables e below (T12.setTop (mkF m 14 #[.val (.ref a1), .val (.int p1)] [(.ref b5)])) t → Steps p.tables e below G t := fun t k => K11 t (st12 t k)
  have K14 : ∀ t, Steps p.tables e below (T12.setTop (mkF m 16 #[.val (.ref a1), .val (.int p1)] [(.ref a1), (.ref a1), (.ref b5)])) t → Steps p.tables e below G t := by
    intro t k
    refine K13 t ?_
    show Steps p.tables e below (T12.setTop (mkF m 14 #[.val (.ref a1), .val (.int p1)] [(.ref b5)])) _
    refine XS.aloadN X12.here hx rfl (hb hby d4_14) rfl rfl ?_
    show Steps p.tables e below (T12.setTop (mkF m 15 #[.val (.ref a1), .val (.int p1)] [(.ref a1), (.ref b5)])) _
    refine XS.dup X12.here hx rfl (hb hby d4_15) rfl rfl ?_
    show Steps p.tables e below (T12.setTop (mkF m 16 #[.val (.ref a1), .val (.int p1)] [(.ref a1), (.ref a1), (.ref b5)])) _
    exact k
  obtain ⟨T15, X15, e15, st15⟩ := getF X12 hx hZ hown (host := "") (Or.inl (hw _ (List.mem_of_getElem? (i := 24) rfl))) Via.refl e12 Fl5 (g := (mkF m 16 #[.val (.ref a1), .val (.int p1)] [(.ref a1), (.ref a1), (.ref b5)])) rfl rfl (hb hby d4_16)
  have K16 : ∀ t, Steps p.tables e below (T15.setTop (mkF m 19 #[.val (.ref a1), .val (.int p1)] [(.int mL), (.ref a1), (.ref b5)])) t → Steps p.tables e below G t := fun t k => K14 t (st15 t k)
  have K17 : ∀ t, Steps p.tables e below (T15.setTop (mkF m 22 #[.val (.ref a1), .val (.int p1)] [(.int (mL + (1 : Int32))), (.ref a1), (.int mL), (.ref b5)])) t → Steps p.tables e below G t := by
    intro t k
    refine K16 t ?_
    show Steps p.tables e below (T15.setTop (mkF m 19 #[.val (.ref a1), .val (.int p1)] [(.int mL), (.ref a1), (.ref b5)])) _
    refine XS.dupX1 X15.here hx rfl (hb hby d4_19) rfl rfl rfl ?_
    show Steps p.tables e below (T15.setTop (mkF m 20 #[.val (.ref a1), .val (.int p1)] [(.int mL), (.ref a1), (.int mL), (.ref b5)])) _
    refine XS.iconst X15.here hx rfl (hb hby d4_20) ?_
    show Steps p.tables e below (T15.setTop (mkF m 21 #[.val (.ref a1), .val (.int p1)] [(.int (1 : Int32)), (.int mL), (.ref a1), (.int mL), (.ref b5)])) _
    refine XS.iadd X15.here hx rfl (hb hby d4_21) rfl ?_
    show Steps p.tables e below (T15.setTop (mkF m 22 #[.val (.ref a1), .val (.int p1)] [(.int (mL + (1 : Int32))), (.ref a1), (.int mL), (.ref b5)])) _
    exact k
  obtain ⟨T18, h18, X18, e18, W18, st18⟩ := putF X15 hx hZ hown (host := "") (Or.inl (hw _ (List.mem_of_getElem? (i := 24) rfl))) Via.refl e15 Fl5 E5' (Or.inl (hw _ (List.mem_of_getElem? (i := 25) rfl))) (hw _ (List.mem_of_getElem? (i := 9) rfl)) (ty := .int) (by decide) rfl rfl (g := (mkF m 22 #[.val (.ref a1), .val (.int p1)] [(.int (mL + (1 : Int32))), (.ref a1), (.int mL), (.ref b5)])) rfl rfl (hb hby d4_22)
  have K19 : ∀ t, Steps p.tables e below (T18.setTop (mkF m 25 #[.val (.ref a1), .val (.int p1)] [(.int mL), (.ref b5)])) t → Steps p.tables e below G t := fun t k => K17 t (st18 t k)
  have f20 := E5'.wr W18
  have f21 := Fc5.other W18 (Or.inr (slot_ne (Or.inl (hw _ (List.mem_of_getElem? (i := 18) rfl))) (Or.inl (hw _ (List.mem_of_getElem? (i := 25) rfl))) (by decide) (t := (.array .char)) (t' := .int) (by decide) (by decide)))
  have f22 := Fl5.same W18
  have f23 := Vb5.other W18 (Ne.symm ne_a1_b5)
  have Z24 : n0 ≤ h18.size := Nat.le_trans Z8 (Keep.of_wr W18).1
  have KP25 : Keep h0 h18 [a1, b2] := KP9.wr W18 (Or.inl (List.mem_of_getElem? (i := 0) rfl))
  have N26 := Fr.snoc X18 N6 g1
  have K27 : ∀ t, Steps p.tables e below (T18.setTop (mkF m 26 #[.val (.ref a1), .val (.int p1)] [(.int p1), (.int mL), (.ref b5)])) t → Steps p.tables e below G t := by
    intro t k
    refine K19 t ?_
    show Steps p.tables e below (T18.setTop (mkF m 25 #[.val (.ref a1), .val (.int p1)] [(.int mL), (.ref b5)])) _
    refine XS.iloadN X18.here hx rfl (hb hby d4_25) rfl ?_
    show Steps p.tables e below (T18.setTop (mkF m 26 #[.val (.ref a1), .val (.int p1)] [(.int p1), (.int mL), (.ref b5)])) _
    exact k
  have hb28 := own_apb hm hz5.1 hz5.2
  obtain ⟨cl28, Ar28, q28, S28, M28, Ha28, Ga28⟩ := f23.pad (pad_rep vs5 (Value.int (0 : Int32)) 16)
  have hin28 : ¬ (mL < 0 ∨ cl28.slots.size ≤ (mL).toNatClampNeg) := inb_of S28 hb28.1
  obtain ⟨T28, h28, X28, e28, W28, st28⟩ := stC X18 hx hZ e18 Ar28 (j := mL) hin28 (g := (mkF m 26 #[.val (.ref a1), .val (.int p1)] [(.int p1), (.int mL), (.ref b5)])) rfl rfl (hb hby d4_26)
  have V28 : Arv Z h28 b5 kb5 .char zb5 ((vs5 ++ List.replicate 16 (Value.int (0 : Int32))).set mL.toNatClampNeg (.int (nar .char p1))) (Value.int (0 : Int32)) := Arv.set Ar28 q28 S28 M28 Ha28 Ga28 (fits_nar_char _) W28 _ rfl (Nat.lt_of_lt_of_le hb28.2 (own_padl _ _))
  have K29 : ∀ t, Steps p.tables e below (T28.setTop (mkF m 27 #[.val (.ref a1), .val (.int p1)] [])) t → Steps p.tables e below G t := fun t k => K27 t (st28 t k)
  have KP30 : Keep h0 h28 [a1, b2] := KP25.wr W28 (ob5.elim (fun q => Or.inl (q ▸ List.mem_of_getElem? (i := 1) rfl)) Or.inr)
  have f31 := f20.wr W28
  have f32 := f21.other W28 (Or.inl ne_a1_b5)
  have f33 := f22.other W28 (Or.inl ne_a1_b5)
  have Z34 : n0 ≤ h28.size := Nat.le_trans Z24 (Keep.of_wr W28).1
  have KP35 : Keep h0 h28 [a1, b2] := KP25.wr W28 (ob5.elim (fun q => Or.inl (q ▸ List.mem_of_getElem? (i := 1) rfl)) Or.inr)
  have N36 := Fr.snoc X28 N26 gb5
  obtain ⟨fs, hr, hrun, hended, hW, hsame⟩ := X28.leave (v := some (.ref a1)) (fun h => by rw [Bd.returns] at h; cases h)
  have KF := K29
  rw [hG] at KF
  refine ⟨_, _, KF _ ?_, hrun, hended, _, _, rfl, ?_, ⟨_, rfl⟩, hW, hsame.mono (by decide) (by decide)⟩
  · show Steps p.tables e below (T28.setTop (mkF m 27 #[.val (.ref a1), .val (.int p1)] [])) _
    refine XS.aloadN X28.here hx rfl (hb hby d4_27) rfl rfl ?_
    show Steps p.tables e below (T28.setTop (mkF m 28 #[.val (.ref a1), .val (.int p1)] [(.ref a1)])) _
    exact own_retA X28 hx Bd.returns rfl rfl rfl (hb hby d4_28) hr
  · show Q4 Z a1 b2 p1 z mL vs h0 n0 _ T28.heap _
    rw [e28]
    refine ⟨_, _, _, _, rfl, N36, KP30, ob5, f31, f32, f33, V28, hz5, fun i hi => ?_, ?_⟩
    · rw [own_set _ _ _ _ _ (Nat.lt_of_lt_of_le hb28.2 (own_padl _ _)), if_neg (by omega), own_pad]
      exact hc5 i (own_apm hm hzm hi)
    · rw [own_set _ _ _ _ _ (Nat.lt_of_lt_of_le hb28.2 (own_padl _ _)), if_pos rfl]
theorem own_nar (x : Int32) : nar .char (nar .char x) = nar .char x := by
  have a := c_i2c x; have b := c_i2c (nar .char x)
  apply Int32.toInt_inj.mp
  show (nar .char x).toUInt32.toUInt16.toUInt32.toInt32.toInt = (nar .char x).toInt
  change ((nar .char x).toInt - x.toInt) % 65536 = 0 ∧ 0 ≤ (nar .char x).toInt ∧ (nar .char x).toInt < 65536 at a
  omega
def own_hi (c : Int32) : Int32 := if c < (55296 : Int32) then (0 : Int32) else if c < (56320 : Int32) then (1 : Int32) else (0 : Int32)
def own_lo (c : Int32) : Int32 := if c < (56320 : Int32) then (0 : Int32) else if c < (57344 : Int32) then (1 : Int32) else (0 : Int32)
theorem own_gt (c k k1 : Int32) (h : k1.toInt = k.toInt + 1) : k < c ↔ ¬ c < k1 := by rw [Int32.lt_iff_toInt_lt, Int32.lt_iff_toInt_lt]; omega
theorem own_lo_hi (c : Int32) (h : ¬ own_lo c = 0) : own_hi c = 0 := by
  unfold own_lo at h; unfold own_hi
  by_cases a : c < 56320
  · rw [if_pos a] at h; exact absurd rfl h
  · rw [if_neg a]; split <;> rfl
def own_t (a b : Int32) : Int32 := if own_hi a = 0 then (0 : Int32) else if own_lo b = 0 then (0 : Int32) else (1 : Int32)
theorem own_t01 (a b : Int32) : own_t a b = 0 ∨ own_t a b = 1 := by
  unfold own_t; split
  · exact Or.inl rfl
  · split
    · exact Or.inl rfl
    · exact Or.inr rfl
def own_pr (f : Nat → Int32) : Nat → Nat → Int32
  | 0, _ => 0
  | 1, _ => 0
  | k + 2, i => own_t (f i) (f (i + 1)) + own_pr f (k + 1) (i + 1)
theorem own_prA (f : Nat → Int32) (k i : Nat) (h : own_hi (f i) = 0) : own_pr f (k + 1) i = own_pr f k (i + 1) := by
  cases k with
  | zero => rfl
  | succ k => show own_t (f i) (f (i + 1)) + own_pr f (k + 1) (i + 1) = _; rw [own_t, if_pos h, Int32.zero_add]
theorem own_prC (f : Nat → Int32) (k i : Nat) (h : own_lo (f (i + 1)) = 0) : own_pr f (k + 1) i = own_pr f k (i + 1) := by
  cases k with
  | zero => rfl
  | succ k =>
    show own_t (f i) (f (i + 1)) + own_pr f (k + 1) (i + 1) = _
    have : own_t (f i) (f (i + 1)) = 0 := by
      rcases own_t01 (f i) (f (i + 1)) with q | q
      · exact q
      · unfold own_t at q ⊢; rw [if_pos h] at q ⊢; split <;> rfl
    rw [this, Int32.zero_add]
theorem own_prD (f : Nat → Int32) (k i : Nat) (h1 : ¬ own_hi (f i) = 0) (h2 : ¬ own_lo (f (i + 1)) = 0) : own_pr f (k + 2) i = 1 + own_pr f k (i + 2) := by
  show own_t (f i) (f (i + 1)) + own_pr f (k + 1) (i + 1) = _
  rw [own_prA f k (i + 1) (own_lo_hi _ h2), own_t, if_neg h1, if_neg h2]
def Q10 (p1 : Int32) (h0 : Heap) (n0 : Nat) (v : Option Value) (h : Heap) (L : List Loc) : Prop := v = some (.int (own_hi p1)) ∧ Fr n0 L ∧ h = h0
theorem d10_0 : decode method_3_code 0 = .ok (.iload_n 0, 1) := by decide +kernel
theorem d10_1 : decode method_3_code 1 = .ok (.ldc 7, 2) := by decide +kernel
theorem d10_3 : decode method_3_code 3 = .ok (.if_icmp .lt 13, 3) := by decide +kernel
theorem d10_6 : decode method_3_code 6 = .ok (.iload_n 0, 1) := by decide +kernel
theorem d10_7 : decode method_3_code 7 = .ok (.ldc 11, 2) := by decide +kernel
theorem d10_9 : decode method_3_code 9 = .ok (.if_icmp .gt 7, 3) := by decide +kernel
theorem d10_12 : decode method_3_code 12 = .ok (.iconst 1, 1) := by decide +kernel
theorem d10_13 : decode method_3_code 13 = .ok (.goto 4, 3) := by decide +kernel
theorem d10_16 : decode method_3_code 16 = .ok (.iconst 0, 1) := by decide +kernel
theorem d10_17 : decode method_3_code 17 = .ok (.ireturn, 1) := by decide +kernel
theorem pn_org_arborlog_pattern_LineTextCodePointCountPinLaw : plainName "org/arborlog/pattern/LineTextCodePointCountPinLaw" = true := by first | (simp [plainName, overriddenIn]; done) | decide +kernel
theorem ef_rm10 (m : MethodId) (x0 : Int32) : entryFrame m #[(.int x0)] 1 = mkF m 0 #[.val (.int x0)] [] := by first | (simp [entryFrame, mkF, argsToLocals, Value.category]; done) | rfl
set_option maxRecDepth 65536 in
set_option maxHeartbeats 40000000 in
theorem rm10 (l : Launch) (Z : State) (a0 : Array Value) (hw : ∀ d ∈ tables_1, d.before a0 Z = true) (ws : List Jvm.Cond) (p1 : Int32) (h0 : Heap) (n0 : Nat) (Z0 : n0 ≤ h0.size) :
    MetFree l (⟨"org/arborlog/pattern/LineTextCodePointCountPinLaw", "high", "(C)Z"⟩ : MethodName) (head1 (Jvm.Cond.code (⟨"org/arborlog/pattern/LineTextCodePointCountPinLaw", "high", "(C)Z"⟩ : MethodName) method_3_code 1 (some .boolean) :: ws) ({ frames := 0, cells := 0, slots := 0, locals := 0 } : Room)) (fun a U => a = #[(.int p1)] ∧ Z.Warmed39 U.vm ∧ U.heap = h0) (fun _ _ _ _ _ => True) (fun _ U o U' => ∃ v L, o = .returned v ∧ Q10 p1 h0 n0 v U'.heap L ∧ FrameEnd U o U' L ({ frames := 0, cells := 0, slots := 0, locals := 0 } : Room).cells ({ frames := 0, cells := 0, slots := 0, locals := 0 } : Room).slots) := by
  refine MetFree.of_bodySF (plainFor_of_name pn_org_arborlog_pattern_LineTextCodePointCountPinLaw) hisR ?_
  intro p e s m args below meth c s₁ Bd hml0 hP hK
  obtain ⟨rfl, hZ, hh⟩ := hP
  have hx := Bd.exec
  have hby := Bd.bytes
  have hml : c.maxLocals = 1 := hml0
  have hown : s.vm.findClass "org/arborlog/pattern/LineTextCodePointCountPinLaw" = some m.cls := findClass_of_methodNamed Bd.named
  have hnm := (name_of_methodNamed Bd.named Bd.method).1
  have X0 : Stand p l e ({ frames := 0, cells := 0, slots := 0, locals := 0 } : Room) s m #[(.int p1)] below meth c s₁ [] 0 0 := Stand.of_body Bd
  have e0 : s₁.heap = h0 := by rw [← hh, Bd.state]; rfl
  have N0 := Fr.nil n0
  have KP0 : Keep h0 h0 [] := Keep.refl h0 _
  obtain ⟨G, hG⟩ : ∃ G : State, G = s₁.setTop (entryFrame m #[(.int p1)] 1) := ⟨_, rfl⟩
  have pre0 : ∀ t, Steps p.tables e below (s₁.setTop (mkF m 0 #[.val (.int p1)] [])) t → Steps p.tables e below G t := fun t k => hG ▸ castTop (ef_rm10 m p1) k
  have K1 : ∀ t, Steps p.tables e below (s₁.setTop (mkF m 3 #[.val (.int p1)] [(.int (55296 : Int32)), (.int p1)])) t → Steps p.tables e below G t := by
    intro t k
    refine pre0 t ?_
    show Steps p.tables e below (s₁.setTop (mkF m 0 #[.val (.int p1)] [])) _
    refine XS.iloadN X0.here hx rfl (hb hby d10_0) rfl ?_
    show Steps p.tables e below (s₁.setTop (mkF m 1 #[.val (.int p1)] [(.int p1)])) _
    refine X0.ldcInt hx hown (mvT hZ (hw _ (List.mem_of_getElem? (i := 7) rfl))) (g := (mkF m 1 #[.val (.int p1)] [(.int p1)])) rfl (hb hby d10_1) _ ?_
    show Steps p.tables e below (s₁.setTop (mkF m 3 #[.val (.int p1)] [(.int (55296 : Int32)), (.int p1)])) _
    exact k
  by_cases hc2 : p1 < (55296 : Int32)
  · obtain ⟨fs, hr, hrun, hended, hW, hsame⟩ := X0.leave (v := some (.int (0 : Int32))) (fun h => by rw [Bd.returns] at h; cases h)
    have KF := K1
    rw [hG] at KF
    refine ⟨_, _, KF _ ?_, hrun, hended, _, _, rfl, ?_, ⟨_, rfl⟩, hW, hsame.mono (by decide) (by decide)⟩
    · show Steps p.tables e below (s₁.setTop (mkF m 3 #[.val (.int p1)] [(.int (55296 : Int32)), (.int p1)])) _
      refine XS.icmpYes X0.here hx rfl (pc0 := 3) (pc' := 16) rfl (hb hby d10_3) rfl (tlt hc2).1 (by decide) (by decide) ?_
      show Steps p.tables e below (s₁.setTop (mkF m 16 #[.val (.int p1)] [])) _
      refine XS.iconst X0.here hx rfl (hb hby d10_16) ?_
      show Steps p.tables e below (s₁.setTop (mkF m 17 #[.val (.int p1)] [(.int (0 : Int32))])) _
      exact retN X0 hx (t := .boolean) Bd.returns (by simp) (hb hby d10_17) hr
    · show Q10 p1 h0 n0 _ s₁.heap _
      rw [e0]
      exact ⟨by simp only [own_hi, if_pos hc2], N0, rfl⟩
  · have K3 : ∀ t, Steps p.tables e below (s₁.setTop (mkF m 9 #[.val (.int p1)] [(.int (56319 : Int32)), (.int p1)])) t → Steps p.tables e below G t := by
      intro t k
      refine K1 t ?_
      show Steps p.tables e below (s₁.setTop (mkF m 3 #[.val (.int p1)] [(.int (55296 : Int32)), (.int p1)])) _
      refine XS.icmpNo X0.here hx rfl (hb hby d10_3) rfl (flt hc2).1 ?_
      show Steps p.tables e below (s₁.setTop (mkF m 6 #[.val (.int p1)] [])) _
      refine XS.iloadN X0.here hx rfl (hb hby d10_6) rfl ?_
      show Steps p.tables e below (s₁.setTop (mkF m 7 #[.val (.int p1)] [(.int p1)])) _
      refine X0.ldcInt hx hown (mvT hZ (hw _ (List.mem_of_getElem? (i := 78) rfl))) (g := (mkF m 7 #[.val (.int p1)] [(.int p1)])) rfl (hb hby d10_7) _ ?_
      show Steps p.tables e below (s₁.setTop (mkF m 9 #[.val (.int p1)] [(.int (56319 : Int32)), (.int p1)])) _
      exact k
    by_cases hc4 : (56319 : Int32) < p1
    · obtain ⟨fs, hr, hrun, hended, hW, hsame⟩ := X0.leave (v := some (.int (0 : Int32))) (fun h => by rw [Bd.returns] at h; cases h)
      have KF := K3
      rw [hG] at KF
      refine ⟨_, _, KF _ ?_, hrun, hended, _, _, rfl, ?_, ⟨_, rfl⟩, hW, hsame.mono (by decide) (by decide)⟩
      · show Steps p.tables e below (s₁.setTop (mkF m 9 #[.val (.int p1)] [(.int (56319 : Int32)), (.int p1)])) _
        refine XS.icmpYes X0.here hx rfl (pc0 := 9) (pc' := 16) rfl (hb hby d10_9) rfl (tlt hc4).2.2.1 (by decide) (by decide) ?_
        show Steps p.tables e below (s₁.setTop (mkF m 16 #[.val (.int p1)] [])) _
        refine XS.iconst X0.here hx rfl (hb hby d10_16) ?_
        show Steps p.tables e below (s₁.setTop (mkF m 17 #[.val (.int p1)] [(.int (0 : Int32))])) _
        exact retN X0 hx (t := .boolean) Bd.returns (by simp) (hb hby d10_17) hr
      · show Q10 p1 h0 n0 _ s₁.heap _
        rw [e0]
        exact ⟨by simp only [own_hi, if_neg hc2, if_neg ((own_gt _ 56319 56320 rfl).mp hc4)], N0, rfl⟩
    · obtain ⟨fs, hr, hrun, hended, hW, hsame⟩ := X0.leave (v := some (.int (1 : Int32))) (fun h => by rw [Bd.returns] at h; cases h)
      have KF := K3
      rw [hG] at KF
      refine ⟨_, _, KF _ ?_, hrun, hended, _, _, rfl, ?_, ⟨_, rfl⟩, hW, hsame.mono (by decide) (by decide)⟩
      · show Steps p.tables e below (s₁.setTop (mkF m 9 #[.val (.int p1)] [(.int (56319 : Int32)), (.int p1)])) _
        refine XS.icmpNo X0.here hx rfl (hb hby d10_9) rfl (flt hc4).2.2.1 ?_
        show Steps p.tables e below (s₁.setTop (mkF m 12 #[.val (.int p1)] [])) _
        refine XS.iconst X0.here hx rfl (hb hby d10_12) ?_
        show Steps p.tables e below (s₁.setTop (mkF m 13 #[.val (.int p1)] [(.int (1 : Int32))])) _
        refine XS.goto X0.here hx rfl (pc0 := 13) (pc' := 17) rfl (hb hby d10_13) (by decide) (by decide) ?_
        show Steps p.tables e below (s₁.setTop (mkF m 17 #[.val (.int p1)] [(.int (1 : Int32))])) _
        exact retN X0 hx (t := .boolean) Bd.returns (by simp) (hb hby d10_17) hr
      · show Q10 p1 h0 n0 _ s₁.heap _
        rw [e0]
        exact ⟨by simp only [own_hi, if_neg hc2, if_pos (Classical.not_not.mp (fun q => hc4 ((own_gt _ 56319 56320 rfl).mpr q)))], N0, rfl⟩
def Q17 (p1 : Int32) (h0 : Heap) (n0 : Nat) (v : Option Value) (h : Heap) (L : List Loc) : Prop := v = some (.int (own_lo p1)) ∧ Fr n0 L ∧ h = h0
theorem d17_0 : decode method_4_code 0 = .ok (.iload_n 0, 1) := by decide +kernel
theorem d17_1 : decode method_4_code 1 = .ok (.ldc 8, 2) := by decide +kernel
theorem d17_3 : decode method_4_code 3 = .ok (.if_icmp .lt 13, 3) := by decide +kernel
theorem d17_6 : decode method_4_code 6 = .ok (.iload_n 0, 1) := by decide +kernel
theorem d17_7 : decode method_4_code 7 = .ok (.ldc 12, 2) := by decide +kernel
theorem d17_9 : decode method_4_code 9 = .ok (.if_icmp .gt 7, 3) := by decide +kernel
theorem d17_12 : decode method_4_code 12 = .ok (.iconst 1, 1) := by decide +kernel
theorem d17_13 : decode method_4_code 13 = .ok (.goto 4, 3) := by decide +kernel
theorem d17_16 : decode method_4_code 16 = .ok (.iconst 0, 1) := by decide +kernel
theorem d17_17 : decode method_4_code 17 = .ok (.ireturn, 1) := by decide +kernel
theorem ef_rm17 (m : MethodId) (x0 : Int32) : entryFrame m #[(.int x0)] 1 = mkF m 0 #[.val (.int x0)] [] := by first | (simp [entryFrame, mkF, argsToLocals, Value.category]; done) | rfl
set_option maxRecDepth 65536 in
set_option maxHeartbeats 40000000 in
theorem rm17 (l : Launch) (Z : State) (a0 : Array Value) (hw : ∀ d ∈ tables_1, d.before a0 Z = true) (ws : List Jvm.Cond) (p1 : Int32) (h0 : Heap) (n0 : Nat) (Z0 : n0 ≤ h0.size) :
    MetFree l (⟨"org/arborlog/pattern/LineTextCodePointCountPinLaw", "low", "(C)Z"⟩ : MethodName) (head1 (Jvm.Cond.code (⟨"org/arborlog/pattern/LineTextCodePointCountPinLaw", "low", "(C)Z"⟩ : MethodName) method_4_code 1 (some .boolean) :: ws) ({ frames := 0, cells := 0, slots := 0, locals := 0 } : Room)) (fun a U => a = #[(.int p1)] ∧ Z.Warmed39 U.vm ∧ U.heap = h0) (fun _ _ _ _ _ => True) (fun _ U o U' => ∃ v L, o = .returned v ∧ Q17 p1 h0 n0 v U'.heap L ∧ FrameEnd U o U' L ({ frames := 0, cells := 0, slots := 0, locals := 0 } : Room).cells ({ frames := 0, cells := 0, slots := 0, locals := 0 } : Room).slots) := by
  refine MetFree.of_bodySF (plainFor_of_name pn_org_arborlog_pattern_LineTextCodePointCountPinLaw) hisR ?_
  intro p e s m args below meth c s₁ Bd hml0 hP hK
  obtain ⟨rfl, hZ, hh⟩ := hP
  have hx := Bd.exec
  have hby := Bd.bytes
  have hml : c.maxLocals = 1 := hml0
  have hown : s.vm.findClass "org/arborlog/pattern/LineTextCodePointCountPinLaw" = some m.cls := findClass_of_methodNamed Bd.named
  have hnm := (name_of_methodNamed Bd.named Bd.method).1
  have X0 : Stand p l e ({ frames := 0, cells := 0, slots := 0, locals := 0 } : Room) s m #[(.int p1)] below meth c s₁ [] 0 0 := Stand.of_body Bd
  have e0 : s₁.heap = h0 := by rw [← hh, Bd.state]; rfl
  have N0 := Fr.nil n0
  have KP0 : Keep h0 h0 [] := Keep.refl h0 _
  obtain ⟨G, hG⟩ : ∃ G : State, G = s₁.setTop (entryFrame m #[(.int p1)] 1) := ⟨_, rfl⟩
  have pre0 : ∀ t, Steps p.tables e below (s₁.setTop (mkF m 0 #[.val (.int p1)] [])) t → Steps p.tables e below G t := fun t k => hG ▸ castTop (ef_rm17 m p1) k
  have K1 : ∀ t, Steps p.tables e below (s₁.setTop (mkF m 3 #[.val (.int p1)] [(.int (56320 : Int32)), (.int p1)])) t → Steps p.tables e below G t := by
    intro t k
    refine pre0 t ?_
    show Steps p.tables e below (s₁.setTop (mkF m 0 #[.val (.int p1)] [])) _
    refine XS.iloadN X0.here hx rfl (hb hby d17_0) rfl ?_
    show Steps p.tables e below (s₁.setTop (mkF m 1 #[.val (.int p1)] [(.int p1)])) _
    refine X0.ldcInt hx hown (mvT hZ (hw _ (List.mem_of_getElem? (i := 6) rfl))) (g := (mkF m 1 #[.val (.int p1)] [(.int p1)])) rfl (hb hby d17_1) _ ?_
    show Steps p.tables e below (s₁.setTop (mkF m 3 #[.val (.int p1)] [(.int (56320 : Int32)), (.int p1)])) _
    exact k
  by_cases hc2 : p1 < (56320 : Int32)
  · obtain ⟨fs, hr, hrun, hended, hW, hsame⟩ := X0.leave (v := some (.int (0 : Int32))) (fun h => by rw [Bd.returns] at h; cases h)
    have KF := K1
    rw [hG] at KF
    refine ⟨_, _, KF _ ?_, hrun, hended, _, _, rfl, ?_, ⟨_, rfl⟩, hW, hsame.mono (by decide) (by decide)⟩
    · show Steps p.tables e below (s₁.setTop (mkF m 3 #[.val (.int p1)] [(.int (56320 : Int32)), (.int p1)])) _
      refine XS.icmpYes X0.here hx rfl (pc0 := 3) (pc' := 16) rfl (hb hby d17_3) rfl (tlt hc2).1 (by decide) (by decide) ?_
      show Steps p.tables e below (s₁.setTop (mkF m 16 #[.val (.int p1)] [])) _
      refine XS.iconst X0.here hx rfl (hb hby d17_16) ?_
      show Steps p.tables e below (s₁.setTop (mkF m 17 #[.val (.int p1)] [(.int (0 : Int32))])) _
      exact retN X0 hx (t := .boolean) Bd.returns (by simp) (hb hby d17_17) hr
    · show Q17 p1 h0 n0 _ s₁.heap _
      rw [e0]
      exact ⟨by simp only [own_lo, if_pos hc2], N0, rfl⟩
  · have K3 : ∀ t, Steps p.tables e below (s₁.setTop (mkF m 9 #[.val (.int p1)] [(.int (57343 : Int32)), (.int p1)])) t → Steps p.tables e below G t := by
      intro t k
      refine K1 t ?_
      show Steps p.tables e below (s₁.setTop (mkF m 3 #[.val (.int p1)] [(.int (56320 : Int32)), (.int p1)])) _
      refine XS.icmpNo X0.here hx rfl (hb hby d17_3) rfl (flt hc2).1 ?_
      show Steps p.tables e below (s₁.setTop (mkF m 6 #[.val (.int p1)] [])) _
      refine XS.iloadN X0.here hx rfl (hb hby d17_6) rfl ?_
      show Steps p.tables e below (s₁.setTop (mkF m 7 #[.val (.int p1)] [(.int p1)])) _
      refine X0.ldcInt hx hown (mvT hZ (hw _ (List.mem_of_getElem? (i := 76) rfl))) (g := (mkF m 7 #[.val (.int p1)] [(.int p1)])) rfl (hb hby d17_7) _ ?_
      show Steps p.tables e below (s₁.setTop (mkF m 9 #[.val (.int p1)] [(.int (57343 : Int32)), (.int p1)])) _
      exact k
    by_cases hc4 : (57343 : Int32) < p1
    · obtain ⟨fs, hr, hrun, hended, hW, hsame⟩ := X0.leave (v := some (.int (0 : Int32))) (fun h => by rw [Bd.returns] at h; cases h)
      have KF := K3
      rw [hG] at KF
      refine ⟨_, _, KF _ ?_, hrun, hended, _, _, rfl, ?_, ⟨_, rfl⟩, hW, hsame.mono (by decide) (by decide)⟩
      · show Steps p.tables e below (s₁.setTop (mkF m 9 #[.val (.int p1)] [(.int (57343 : Int32)), (.int p1)])) _
        refine XS.icmpYes X0.here hx rfl (pc0 := 9) (pc' := 16) rfl (hb hby d17_9) rfl (tlt hc4).2.2.1 (by decide) (by decide) ?_
        show Steps p.tables e below (s₁.setTop (mkF m 16 #[.val (.int p1)] [])) _
        refine XS.iconst X0.here hx rfl (hb hby d17_16) ?_
        show Steps p.tables e below (s₁.setTop (mkF m 17 #[.val (.int p1)] [(.int (0 : Int32))])) _
        exact retN X0 hx (t := .boolean) Bd.returns (by simp) (hb hby d17_17) hr
      · show Q17 p1 h0 n0 _ s₁.heap _
        rw [e0]
        exact ⟨by simp only [own_lo, if_neg hc2, if_neg ((own_gt _ 57343 57344 rfl).mp hc4)], N0, rfl⟩
    · obtain ⟨fs, hr, hrun, hended, hW, hsame⟩ := X0.leave (v := some (.int (1 : Int32))) (fun h => by rw [Bd.returns] at h; cases h)
      have KF := K3
      rw [hG] at KF
      refine ⟨_, _, KF _ ?_, hrun, hended, _, _, rfl, ?_, ⟨_, rfl⟩, hW, hsame.mono (by decide) (by decide)⟩
      · show Steps p.tables e below (s₁.setTop (mkF m 9 #[.val (.int p1)] [(.int (57343 : Int32)), (.int p1)])) _
        refine XS.icmpNo X0.here hx rfl (hb hby d17_9) rfl (flt hc4).2.2.1 ?_
        show Steps p.tables e below (s₁.setTop (mkF m 12 #[.val (.int p1)] [])) _
        refine XS.iconst X0.here hx rfl (hb hby d17_12) ?_
        show Steps p.tables e below (s₁.setTop (mkF m 13 #[.val (.int p1)] [(.int (1 : Int32))])) _
        refine XS.goto X0.here hx rfl (pc0 := 13) (pc' := 17) rfl (hb hby d17_13) (by decide) (by decide) ?_
        show Steps p.tables e below (s₁.setTop (mkF m 17 #[.val (.int p1)] [(.int (1 : Int32))])) _
        exact retN X0 hx (t := .boolean) Bd.returns (by simp) (hb hby d17_17) hr
      · show Q17 p1 h0 n0 _ s₁.heap _
        rw [e0]
        exact ⟨by simp only [own_lo, if_neg hc2, if_pos (Classical.not_not.mp (fun q => hc4 ((own_gt _ 57343 57344 rfl).mpr q)))], N0, rfl⟩
def Q16 (p1 : Int32) (h0 : Heap) (n0 : Nat) (v : Option Value) (h : Heap) (L : List Loc) : Prop := v = some (.int (own_hi p1)) ∧ Fr n0 L ∧ h = h0
theorem d16_0 : decode jdk_89_method_14_code 0 = .ok (.iload_n 0, 1) := by decide +kernel
theorem d16_1 : decode jdk_89_method_14_code 1 = .ok (.ldc 75, 2) := by decide +kernel
theorem d16_3 : decode jdk_89_method_14_code 3 = .ok (.if_icmp .lt 13, 3) := by decide +kernel
theorem d16_6 : decode jdk_89_method_14_code 6 = .ok (.iload_n 0, 1) := by decide +kernel
theorem d16_7 : decode jdk_89_method_14_code 7 = .ok (.ldc 76, 2) := by decide +kernel
theorem d16_9 : decode jdk_89_method_14_code 9 = .ok (.if_icmp .ge 7, 3) := by decide +kernel
theorem d16_12 : decode jdk_89_method_14_code 12 = .ok (.iconst 1, 1) := by decide +kernel
theorem d16_13 : decode jdk_89_method_14_code 13 = .ok (.goto 4, 3) := by decide +kernel
theorem d16_16 : decode jdk_89_method_14_code 16 = .ok (.iconst 0, 1) := by decide +kernel
theorem d16_17 : decode jdk_89_method_14_code 17 = .ok (.ireturn, 1) := by decide +kernel
theorem pn_java_lang_Character : plainName "java/lang/Character" = true := by first | (simp [plainName, overriddenIn]; done) | decide +kernel
theorem ef_rm16 (m : MethodId) (x0 : Int32) : entryFrame m #[(.int x0)] 1 = mkF m 0 #[.val (.int x0)] [] := by first | (simp [entryFrame, mkF, argsToLocals, Value.category]; done) | rfl
set_option maxRecDepth 65536 in
set_option maxHeartbeats 40000000 in
theorem rm16 (l : Launch) (Z : State) (a0 : Array Value) (hw : ∀ d ∈ tables_1, d.before a0 Z = true) (ws : List Jvm.Cond) (p1 : Int32) (h0 : Heap) (n0 : Nat) (Z0 : n0 ≤ h0.size) :
    MetFree l (⟨"java/lang/Character", "isHighSurrogate", "(C)Z"⟩ : MethodName) (head1 (Jvm.Cond.code (⟨"java/lang/Character", "isHighSurrogate", "(C)Z"⟩ : MethodName) jdk_89_method_14_code 1 (some .boolean) :: ws) ({ frames := 0, cells := 0, slots := 0, locals := 0 } : Room)) (fun a U => a = #[(.int p1)] ∧ Z.Warmed39 U.vm ∧ U.heap = h0) (fun _ _ _ _ _ => True) (fun _ U o U' => ∃ v L, o = .returned v ∧ Q16 p1 h0 n0 v U'.heap L ∧ FrameEnd U o U' L ({ frames := 0, cells := 0, slots := 0, locals := 0 } : Room).cells ({ frames := 0, cells := 0, slots := 0, locals := 0 } : Room).slots) := by
  refine MetFree.of_bodySF (plainFor_of_name pn_java_lang_Character) hisR ?_
  intro p e s m args below meth c s₁ Bd hml0 hP hK
  obtain ⟨rfl, hZ, hh⟩ := hP
  have hx := Bd.exec
  have hby := Bd.bytes
  have hml : c.maxLocals = 1 := hml0
  have hown : s.vm.findClass "java/lang/Character" = some m.cls := findClass_of_methodNamed Bd.named
  have hnm := (name_of_methodNamed Bd.named Bd.method).1
  have X0 : Stand p l e ({ frames := 0, cells := 0, slots := 0, locals := 0 } : Room) s m #[(.int p1)] below meth c s₁ [] 0 0 := Stand.of_body Bd
  have e0 : s₁.heap = h0 := by rw [← hh, Bd.state]; rfl
  have N0 := Fr.nil n0
  have KP0 : Keep h0 h0 [] := Keep.refl h0 _
  obtain ⟨G, hG⟩ : ∃ G : State, G = s₁.setTop (entryFrame m #[(.int p1)] 1) := ⟨_, rfl⟩
  have pre0 : ∀ t, Steps p.tables e below (s₁.setTop (mkF m 0 #[.val (.int p1)] [])) t → Steps p.tables e below G t := fun t k => hG ▸ castTop (ef_rm16 m p1) k
  have K1 : ∀ t, Steps p.tables e below (s₁.setTop (mkF m 3 #[.val (.int p1)] [(.int (55296 : Int32)), (.int p1)])) t → Steps p.tables e below G t := by
    intro t k
    refine pre0 t ?_
    show Steps p.tables e below (s₁.setTop (mkF m 0 #[.val (.int p1)] [])) _
    refine XS.iloadN X0.here hx rfl (hb hby d16_0) rfl ?_
    show Steps p.tables e below (s₁.setTop (mkF m 1 #[.val (.int p1)] [(.int p1)])) _
    refine X0.ldcInt hx hown (mvT hZ (hw _ (List.mem_of_getElem? (i := 74) rfl))) (g := (mkF m 1 #[.val (.int p1)] [(.int p1)])) rfl (hb hby d16_1) _ ?_
    show Steps p.tables e below (s₁.setTop (mkF m 3 #[.val (.int p1)] [(.int (55296 : Int32)), (.int p1)])) _
    exact k
  by_cases hc2 : p1 < (55296 : Int32)
  · obtain ⟨fs, hr, hrun, hended, hW, hsame⟩ := X0.leave (v := some (.int (0 : Int32))) (fun h => by rw [Bd.returns] at h; cases h)
    have KF := K1
    rw [hG] at KF
    refine ⟨_, _, KF _ ?_, hrun, hended, _, _, rfl, ?_, ⟨_, rfl⟩, hW, hsame.mono (by decide) (by decide)⟩
    · show Steps p.tables e below (s₁.setTop (mkF m 3 #[.val (.int p1)] [(.int (55296 : Int32)), (.int p1)])) _
      refine XS.icmpYes X0.here hx rfl (pc0 := 3) (pc' := 16) rfl (hb hby d16_3) rfl (tlt hc2).1 (by decide) (by decide) ?_
      show Steps p.tables e below (s₁.setTop (mkF m 16 #[.val (.int p1)] [])) _
      refine XS.iconst X0.here hx rfl (hb hby d16_16) ?_
      show Steps p.tables e below (s₁.setTop (mkF m 17 #[.val (.int p1)] [(.int (0 : Int32))])) _
      exact retN X0 hx (t := .boolean) Bd.returns (by simp) (hb hby d16_17) hr
    · show Q16 p1 h0 n0 _ s₁.heap _
      rw [e0]
      exact ⟨by simp only [own_hi, if_pos hc2], N0, rfl⟩
  · have K3 : ∀ t, Steps p.tables e below (s₁.setTop (mkF m 9 #[.val (.int p1)] [(.int (56320 : Int32)), (.int p1)])) t → Steps p.tables e below G t := by
      intro t k
      refine K1 t ?_
      show Steps p.tables e below (s₁.setTop (mkF m 3 #[.val (.int p1)] [(.int (55296 : Int32)), (.int p1)])) _
      refine XS.icmpNo X0.here hx rfl (hb hby d16_3) rfl (flt hc2).1 ?_
      show Steps p.tables e below (s₁.setTop (mkF m 6 #[.val (.int p1)] [])) _
      refine XS.iloadN X0.here hx rfl (hb hby d16_6) rfl ?_
      show Steps p.tables e below (s₁.setTop (mkF m 7 #[.val (.int p1)] [(.int p1)])) _
      refine X0.ldcInt hx hown (mvT hZ (hw _ (List.mem_of_getElem? (i := 75) rfl))) (g := (mkF m 7 #[.val (.int p1)] [(.int p1)])) rfl (hb hby d16_7) _ ?_
      show Steps p.tables e below (s₁.setTop (mkF m 9 #[.val (.int p1)] [(.int (56320 : Int32)), (.int p1)])) _
      exact k
    by_cases hc4 : p1 < (56320 : Int32)
    · obtain ⟨fs, hr, hrun, hended, hW, hsame⟩ := X0.leave (v := some (.int (1 : Int32))) (fun h => by rw [Bd.returns] at h; cases h)
      have KF := K3
      rw [hG] at KF
      refine ⟨_, _, KF _ ?_, hrun, hended, _, _, rfl, ?_, ⟨_, rfl⟩, hW, hsame.mono (by decide) (by decide)⟩
      · show Steps p.tables e below (s₁.setTop (mkF m 9 #[.val (.int p1)] [(.int (56320 : Int32)), (.int p1)])) _
        refine XS.icmpNo X0.here hx rfl (hb hby d16_9) rfl (tlt hc4).2.1 ?_
        show Steps p.tables e below (s₁.setTop (mkF m 12 #[.val (.int p1)] [])) _
        refine XS.iconst X0.here hx rfl (hb hby d16_12) ?_
        show Steps p.tables e below (s₁.setTop (mkF m 13 #[.val (.int p1)] [(.int (1 : Int32))])) _
        refine XS.goto X0.here hx rfl (pc0 := 13) (pc' := 17) rfl (hb hby d16_13) (by decide) (by decide) ?_
        show Steps p.tables e below (s₁.setTop (mkF m 17 #[.val (.int p1)] [(.int (1 : Int32))])) _
        exact retN X0 hx (t := .boolean) Bd.returns (by simp) (hb hby d16_17) hr
      · show Q16 p1 h0 n0 _ s₁.heap _
        rw [e0]
        exact ⟨by simp only [own_hi, if_neg hc2, if_pos hc4], N0, rfl⟩
    · obtain ⟨fs, hr, hrun, hended, hW, hsame⟩ := X0.leave (v := some (.int (0 : Int32))) (fun h => by rw [Bd.returns] at h; cases h)
      have KF := K3
      rw [hG] at KF
      refine ⟨_, _, KF _ ?_, hrun, hended, _, _, rfl, ?_, ⟨_, rfl⟩, hW, hsame.mono (by decide) (by decide)⟩
      · show Steps p.tables e below (s₁.setTop (mkF m 9 #[.val (.int p1)] [(.int (56320 : Int32)), (.int p1)])) _
        refine XS.icmpYes X0.here hx rfl (pc0 := 9) (pc' := 16) rfl (hb hby d16_9) rfl (flt hc4).2.1 (by decide) (by decide) ?_
        show Steps p.tables e below (s₁.setTop (mkF m 16 #[.val (.int p1)] [])) _
        refine XS.iconst X0.here hx rfl (hb hby d16_16) ?_
        show Steps p.tables e below (s₁.setTop (mkF m 17 #[.val (.int p1)] [(.int (0 : Int32))])) _
        exact retN X0 hx (t := .boolean) Bd.returns (by simp) (hb hby d16_17) hr
      · show Q16 p1 h0 n0 _ s₁.heap _
        rw [e0]
        exact ⟨by simp only [own_hi, if_neg hc2, if_neg hc4], N0, rfl⟩
def Q18 (p1 : Int32) (h0 : Heap) (n0 : Nat) (v : Option Value) (h : Heap) (L : List Loc) : Prop := v = some (.int (own_lo p1)) ∧ Fr n0 L ∧ h = h0
theorem d18_0 : decode jdk_89_method_15_code 0 = .ok (.iload_n 0, 1) := by decide +kernel
theorem d18_1 : decode jdk_89_method_15_code 1 = .ok (.ldc 76, 2) := by decide +kernel
theorem d18_3 : decode jdk_89_method_15_code 3 = .ok (.if_icmp .lt 13, 3) := by decide +kernel
theorem d18_6 : decode jdk_89_method_15_code 6 = .ok (.iload_n 0, 1) := by decide +kernel
theorem d18_7 : decode jdk_89_method_15_code 7 = .ok (.ldc 77, 2) := by decide +kernel
theorem d18_9 : decode jdk_89_method_15_code 9 = .ok (.if_icmp .ge 7, 3) := by decide +kernel
theorem d18_12 : decode jdk_89_method_15_code 12 = .ok (.iconst 1, 1) := by decide +kernel
theorem d18_13 : decode jdk_89_method_15_code 13 = .ok (.goto 4, 3) := by decide +kernel
theorem d18_16 : decode jdk_89_method_15_code 16 = .ok (.iconst 0, 1) := by decide +kernel
theorem d18_17 : decode jdk_89_method_15_code 17 = .ok (.ireturn, 1) := by decide +kernel
theorem ef_rm18 (m : MethodId) (x0 : Int32) : entryFrame m #[(.int x0)] 1 = mkF m 0 #[.val (.int x0)] [] := by first | (simp [entryFrame, mkF, argsToLocals, Value.category]; done) | rfl
set_option maxRecDepth 65536 in
set_option maxHeartbeats 40000000 in
theorem rm18 (l : Launch) (Z : State) (a0 : Array Value) (hw : ∀ d ∈ tables_1, d.before a0 Z = true) (ws : List Jvm.Cond) (p1 : Int32) (h0 : Heap) (n0 : Nat) (Z0 : n0 ≤ h0.size) :
    MetFree l (⟨"java/lang/Character", "isLowSurrogate", "(C)Z"⟩ : MethodName) (head1 (Jvm.Cond.code (⟨"java/lang/Character", "isLowSurrogate", "(C)Z"⟩ : MethodName) jdk_89_method_15_code 1 (some .boolean) :: ws) ({ frames := 0, cells := 0, slots := 0, locals := 0 } : Room)) (fun a U => a = #[(.int p1)] ∧ Z.Warmed39 U.vm ∧ U.heap = h0) (fun _ _ _ _ _ => True) (fun _ U o U' => ∃ v L, o = .returned v ∧ Q18 p1 h0 n0 v U'.heap L ∧ FrameEnd U o U' L ({ frames := 0, cells := 0, slots := 0, locals := 0 } : Room).cells ({ frames := 0, cells := 0, slots := 0, locals := 0 } : Room).slots) := by
  refine MetFree.of_bodySF (plainFor_of_name pn_java_lang_Character) hisR ?_
  intro p e s m args below meth c s₁ Bd hml0 hP hK
  obtain ⟨rfl, hZ, hh⟩ := hP
  have hx := Bd.exec
  have hby := Bd.bytes
  have hml : c.maxLocals = 1 := hml0
  have hown : s.vm.findClass "java/lang/Character" = some m.cls := findClass_of_methodNamed Bd.named
  have hnm := (name_of_methodNamed Bd.named Bd.method).1
  have X0 : Stand p l e ({ frames := 0, cells := 0, slots := 0, locals := 0 } : Room) s m #[(.int p1)] below meth c s₁ [] 0 0 := Stand.of_body Bd
  have e0 : s₁.heap = h0 := by rw [← hh, Bd.state]; rfl
  have N0 := Fr.nil n0
  have KP0 : Keep h0 h0 [] := Keep.refl h0 _
  obtain ⟨G, hG⟩ : ∃ G : State, G = s₁.setTop (entryFrame m #[(.int p1)] 1) := ⟨_, rfl⟩
  have pre0 : ∀ t, Steps p.tables e below (s₁.setTop (mkF m 0 #[.val (.int p1)] [])) t → Steps p.tables e below G t := fun t k => hG ▸ castTop (ef_rm18 m p1) k
  have K1 : ∀ t, Steps p.tables e below (s₁.setTop (mkF m 3 #[.val (.int p1)] [(.int (56320 : Int32)), (.int p1)])) t → Steps p.tables e below G t := by
    intro t k
    refine pre0 t ?_
    show Steps p.tables e below (s₁.setTop (mkF m 0 #[.val (.int p1)] [])) _
    refine XS.iloadN X0.here hx rfl (hb hby d18_0) rfl ?_
    show Steps p.tables e below (s₁.setTop (mkF m 1 #[.val (.int p1)] [(.int p1)])) _
    refine X0.ldcInt hx hown (mvT hZ (hw _ (List.mem_of_getElem? (i := 75) rfl))) (g := (mkF m 1 #[.val (.int p1)] [(.int p1)])) rfl (hb hby d18_1) _ ?_
    show Steps p.tables e below (s₁.setTop (mkF m 3 #[.val (.int p1)] [(.int (56320 : Int32)), (.int p1)])) _
    exact k
  by_cases hc2 : p1 < (56320 : Int32)
  · obtain ⟨fs, hr, hrun, hended, hW, hsame⟩ := X0.leave (v := some (.int (0 : Int32))) (fun h => by rw [Bd.returns] at h; cases h)
    have KF := K1
    rw [hG] at KF
    refine ⟨_, _, KF _ ?_, hrun, hended, _, _, rfl, ?_, ⟨_, rfl⟩, hW, hsame.mono (by decide) (by decide)⟩
    · show Steps p.tables e below (s₁.setTop (mkF m 3 #[.val (.int p1)] [(.int (56320 : Int32)), (.int p1)])) _
      refine XS.icmpYes X0.here hx rfl (pc0 := 3) (pc' := 16) rfl (hb hby d18_3) rfl (tlt hc2).1 (by decide) (by decide) ?_
      show Steps p.tables e below (s₁.setTop (mkF m 16 #[.val (.int p1)] [])) _
      refine XS.iconst X0.here hx rfl (hb hby d18_16) ?_
      show Steps p.tables e below (s₁.setTop (mkF m 17 #[.val (.int p1)] [(.int (0 : Int32))])) _
      exact retN X0 hx (t := .boolean) Bd.returns (by simp) (hb hby d18_17) hr
    · show Q18 p1 h0 n0 _ s₁.heap _
      rw [e0]
      exact ⟨by simp only [own_lo, if_pos hc2], N0, rfl⟩
  · have K3 : ∀ t, Steps p.tables e below (s₁.setTop (mkF m 9 #[.val (.int p1)] [(.int (57344 : Int32)), (.int p1)])) t → Steps p.tables e below G t := by
      intro t k
      refine K1 t ?_
      show Steps p.tables e below (s₁.setTop (mkF m 3 #[.val (.int p1)] [(.int (56320 : Int32)), (.int p1)])) _
      refine XS.icmpNo X0.here hx rfl (hb hby d18_3) rfl (flt hc2).1 ?_
      show Steps p.tables e below (s₁.setTop (mkF m 6 #[.val (.int p1)] [])) _
      refine XS.iloadN X0.here hx rfl (hb hby d18_6) rfl ?_
      show Steps p.tables e below (s₁.setTop (mkF m 7 #[.val (.int p1)] [(.int p1)])) _
      refine X0.ldcInt hx hown (mvT hZ (hw _ (List.mem_of_getElem? (i := 85) rfl))) (g := (mkF m 7 #[.val (.int p1)] [(.int p1)])) rfl (hb hby d18_7) _ ?_
      show Steps p.tables e below (s₁.setTop (mkF m 9 #[.val (.int p1)] [(.int (57344 : Int32)), (.int p1)])) _
      exact k
    by_cases hc4 : p1 < (57344 : Int32)
    · obtain ⟨fs, hr, hrun, hended, hW, hsame⟩ := X0.leave (v := some (.int (1 : Int32))) (fun h => by rw [Bd.returns] at h; cases h)
      have KF := K3
      rw [hG] at KF
      refine ⟨_, _, KF _ ?_, hrun, hended, _, _, rfl, ?_, ⟨_, rfl⟩, hW, hsame.mono (by decide) (by decide)⟩
      · show Steps p.tables e below (s₁.setTop (mkF m 9 #[.val (.int p1)] [(.int (57344 : Int32)), (.int p1)])) _
        refine XS.icmpNo X0.here hx rfl (hb hby d18_9) rfl (tlt hc4).2.1 ?_
        show Steps p.tables e below (s₁.setTop (mkF m 12 #[.val (.int p1)] [])) _
        refine XS.iconst X0.here hx rfl (hb hby d18_12) ?_
        show Steps p.tables e below (s₁.setTop (mkF m 13 #[.val (.int p1)] [(.int (1 : Int32))])) _
        refine XS.goto X0.here hx rfl (pc0 := 13) (pc' := 17) rfl (hb hby d18_13) (by decide) (by decide) ?_
        show Steps p.tables e below (s₁.setTop (mkF m 17 #[.val (.int p1)] [(.int (1 : Int32))])) _
        exact retN X0 hx (t := .boolean) Bd.returns (by simp) (hb hby d18_17) hr
      · show Q18 p1 h0 n0 _ s₁.heap _
        rw [e0]
        exact ⟨by simp only [own_lo, if_neg hc2, if_pos hc4], N0, rfl⟩
    · obtain ⟨fs, hr, hrun, hended, hW, hsame⟩ := X0.leave (v := some (.int (0 : Int32))) (fun h => by rw [Bd.returns] at h; cases h)
      have KF := K3
      rw [hG] at KF
      refine ⟨_, _, KF _ ?_, hrun, hended, _, _, rfl, ?_, ⟨_, rfl⟩, hW, hsame.mono (by decide) (by decide)⟩
      · show Steps p.tables e below (s₁.setTop (mkF m 9 #[.val (.int p1)] [(.int (57344 : Int32)), (.int p1)])) _
        refine XS.icmpYes X0.here hx rfl (pc0 := 9) (pc' := 16) rfl (hb hby d18_9) rfl (flt hc4).2.1 (by decide) (by decide) ?_
        show Steps p.tables e below (s₁.setTop (mkF m 16 #[.val (.int p1)] [])) _
        refine XS.iconst X0.here hx rfl (hb hby d18_16) ?_
        show Steps p.tables e below (s₁.setTop (mkF m 17 #[.val (.int p1)] [(.int (0 : Int32))])) _
        exact retN X0 hx (t := .boolean) Bd.returns (by simp) (hb hby d18_17) hr
      · show Q18 p1 h0 n0 _ s₁.heap _
        rw [e0]
        exact ⟨by simp only [own_lo, if_neg hc2, if_neg hc4], N0, rfl⟩
def Q1 (h0 : Heap) (n0 : Nat) (v : Option Value) (h : Heap) (L : List Loc) : Prop := ∃ r : Int32, v = some (.int r) ∧ Fr n0 L ∧ h = h0
theorem d1_0 : decode method_2_code 0 = .ok (.iload_n 0, 1) := by decide +kernel
theorem d1_1 : decode method_2_code 1 = .ok (.iconst 3, 1) := by decide +kernel
theorem d1_2 : decode method_2_code 2 = .ok (.iand, 1) := by decide +kernel
theorem d1_3 : decode method_2_code 3 = .ok (.istore_n 1, 1) := by decide +kernel
theorem d1_4 : decode method_2_code 4 = .ok (.iload_n 0, 1) := by decide +kernel
theorem d1_5 : decode method_2_code 5 = .ok (.iconst 2, 1) := by decide +kernel
theorem d1_6 : decode method_2_code 6 = .ok (.iushr, 1) := by decide +kernel
theorem d1_7 : decode method_2_code 7 = .ok (.istore_n 2, 1) := by decide +kernel
theorem d1_8 : decode method_2_code 8 = .ok (.iload_n 1, 1) := by decide +kernel
theorem d1_9 : decode method_2_code 9 = .ok (.iconst 1, 1) := by decide +kernel
theorem d1_10 : decode method_2_code 10 = .ok (.if_icmp .ne 13, 3) := by decide +kernel
theorem d1_13 : decode method_2_code 13 = .ok (.ldc 7, 2) := by decide +kernel
theorem d1_15 : decode method_2_code 15 = .ok (.iload_n 2, 1) := by decide +kernel
theorem d1_16 : decode method_2_code 16 = .ok (.sipush 1023, 3) := by decide +kernel
theorem d1_19 : decode method_2_code 19 = .ok (.iand, 1) := by decide +kernel
theorem d1_20 : decode method_2_code 20 = .ok (.iadd, 1) := by decide +kernel
theorem d1_21 : decode method_2_code 21 = .ok (.i2c, 1) := by decide +kernel
theorem d1_22 : decode method_2_code 22 = .ok (.ireturn, 1) := by decide +kernel
theorem d1_23 : decode method_2_code 23 = .ok (.iload_n 1, 1) := by decide +kernel
theorem d1_24 : decode method_2_code 24 = .ok (.iconst 2, 1) := by decide +kernel
theorem d1_25 : decode method_2_code 25 = .ok (.if_icmp .ne 13, 3) := by decide +kernel
theorem d1_28 : decode method_2_code 28 = .ok (.ldc 8, 2) := by decide +kernel
theorem d1_30 : decode method_2_code 30 = .ok (.iload_n 2, 1) := by decide +kernel
theorem d1_31 : decode method_2_code 31 = .ok (.sipush 1023, 3) := by decide +kernel
theorem d1_34 : decode method_2_code 34 = .ok (.iand, 1) := by decide +kernel
theorem d1_35 : decode method_2_code 35 = .ok (.iadd, 1) := by decide +kernel
theorem d1_36 : decode method_2_code 36 = .ok (.i2c, 1) := by decide +kernel
theorem d1_37 : decode method_2_code 37 = .ok (.ireturn, 1) := by decide +kernel
theorem d1_38 : decode method_2_code 38 = .ok (.iload_n 1, 1) := by decide +kernel
theorem d1_39 : decode method_2_code 39 = .ok (.iconst 3, 1) := by decide +kernel
theorem d1_40 : decode method_2_code 40 = .ok (.if_icmp .ne 33, 3) := by decide +kernel
theorem d1_43 : decode method_2_code 43 = .ok (.iload_n 2, 1) := by decide +kernel
theorem d1_44 : decode method_2_code 44 = .ok (.iconst 3, 1) := by decide +kernel
theorem d1_45 : decode method_2_code 45 = .ok (.iand, 1) := by decide +kernel
theorem d1_46 : decode method_2_code 46 = .ok (.istore_n 3, 1) := by decide +kernel
theorem d1_47 : decode method_2_code 47 = .ok (.iload_n 3, 1) := by decide +kernel
theorem d1_48 : decode method_2_code 48 = .ok (.ifCond .ne 6, 3) := by decide +kernel
theorem d1_51 : decode method_2_code 51 = .ok (.ldc 9, 2) := by decide +kernel
theorem d1_53 : decode method_2_code 53 = .ok (.ireturn, 1) := by decide +kernel
theorem d1_54 : decode method_2_code 54 = .ok (.iload_n 3, 1) := by decide +kernel
theorem d1_55 : decode method_2_code 55 = .ok (.iconst 1, 1) := by decide +kernel
theorem d1_56 : decode method_2_code 56 = .ok (.if_icmp .ne 6, 3) := by decide +kernel
theorem d1_59 : decode method_2_code 59 = .ok (.ldc 10, 2) := by decide +kernel
theorem d1_61 : decode method_2_code 61 = .ok (.ireturn, 1) := by decide +kernel
theorem d1_62 : decode method_2_code 62 = .ok (.iload_n 3, 1) := by decide +kernel
theorem d1_63 : decode method_2_code 63 = .ok (.iconst 2, 1) := by decide +kernel
theorem d1_64 : decode method_2_code 64 = .ok (.if_icmp .ne 6, 3) := by decide +kernel
theorem d1_67 : decode method_2_code 67 = .ok (.ldc 11, 2) := by decide +kernel
theorem d1_69 : decode method_2_code 69 = .ok (.ireturn, 1) := by decide +kernel
theorem d1_70 : decode method_2_code 70 = .ok (.ldc 12, 2) := by decide +kernel
theorem d1_72 : decode method_2_code 72 = .ok (.ireturn, 1) := by decide +kernel
theorem d1_73 : decode method_2_code 73 = .ok (.iload_n 2, 1) := by decide +kernel
theorem d1_74 : decode method_2_code 74 = .ok (.i2c, 1) := by decide +kernel
theorem d1_75 : decode method_2_code 75 = .ok (.ireturn, 1) := by decide +kernel
theorem ef_rm1 (m : MethodId) (x0 : Int32) : entryFrame m #[(.int x0)] 4 = mkF m 0 #[.val (.int x0), .unset, .unset, .unset] [] := by first | (simp [entryFrame, mkF, argsToLocals, Value.category]; done) | rfl
set_option maxRecDepth 65536 in
set_option maxHeartbeats 40000000 in
theorem rm1 (l : Launch) (Z : State) (a0 : Array Value) (hw : ∀ d ∈ tables_1, d.before a0 Z = true) (ws : List Jvm.Cond) (p1 : Int32) (h0 : Heap) (n0 : Nat) (Z0 : n0 ≤ h0.size) :
    MetFree l (⟨"org/arborlog/pattern/LineTextCodePointCountPinLaw", "draw", "(I)C"⟩ : MethodName) (head1 (Jvm.Cond.code (⟨"org/arborlog/pattern/LineTextCodePointCountPinLaw", "draw", "(I)C"⟩ : MethodName) method_2_code 4 (some .char) :: ws) ({ frames := 0, cells := 0, slots := 0, locals := 0 } : Room)) (fun a U => a = #[(.int p1)] ∧ Z.Warmed39 U.vm ∧ U.heap = h0) (fun _ _ _ _ _ => True) (fun _ U o U' => ∃ v L, o = .returned v ∧ Q1 h0 n0 v U'.heap L ∧ FrameEnd U o U' L ({ frames := 0, cells := 0, slots := 0, locals := 0 } : Room).cells ({ frames := 0, cells := 0, slots := 0, locals := 0 } : Room).slots) := by
  refine MetFree.of_bodySF (plainFor_of_name pn_org_arborlog_pattern_LineTextCodePointCountPinLaw) hisR ?_
  intro p e s m args below meth c s₁ Bd hml0 hP hK
  obtain ⟨rfl, hZ, hh⟩ := hP
  have hx := Bd.exec
  have hby := Bd.bytes
  have hml : c.maxLocals = 4 := hml0
  have hown : s.vm.findClass "org/arborlog/pattern/LineTextCodePointCountPinLaw" = some m.cls := findClass_of_methodNamed Bd.named
  have hnm := (name_of_methodNamed Bd.named Bd.method).1
  have X0 : Stand p l e ({ frames := 0, cells := 0, slots := 0, locals := 0 } : Room) s m #[(.int p1)] below meth c s₁ [] 0 0 := Stand.of_body Bd
  have e0 : s₁.heap = h0 := by rw [← hh, Bd.state]; rfl
  have N0 := Fr.nil n0
  have KP0 : Keep h0 h0 [] := Keep.refl h0 _
  obtain ⟨G, hG⟩ : ∃ G : State, G = s₁.setTop (entryFrame m #[(.int p1)] 4) := ⟨_, rfl⟩
  have pre0 : ∀ t, Steps p.tables e below (s₁.setTop (mkF m 0 #[.val (.int p1), .unset, .unset, .unset] [])) t → Steps p.tables e below G t := fun t k => hG ▸ castTop (ef_rm1 m p1) k
  have K1 : ∀ t, Steps p.tables e below (s₁.setTop (mkF m 10 #[.val (.int p1), .val (.int (p1 &&& (3 : Int32))), .val (.int ((p1.toUInt32 >>> ((2 : Int32) &&& 31).toUInt32).toInt32)), .unset] [(.int (1 : Int32)), (.int (p1 &&& (3 : Int32)))])) t → Steps p.tables e below G t := by
    intro t k
    refine pre0 t ?_
    show Steps p.tables e below (s₁.setTop (mkF m 0 #[.val (.int p1), .unset, .unset, .unset] [])) _
    refine XS.iloadN X0.here hx rfl (hb hby d1_0) rfl ?_
    show Steps p.tables e below (s₁.setTop (mkF m 1 #[.val (.int p1), .unset, .unset, .unset] [(.int p1)])) _
    refine XS.iconst X0.here hx rfl (hb hby d1_1) ?_
    show Steps p.tables e below (s₁.setTop (mkF m 2 #[.val (.int p1), .unset, .unset, .unset] [(.int (3 : Int32)), (.int p1)])) _
    refine XS.iand X0.here hx rfl (hb hby d1_2) rfl ?_
    show Steps p.tables e below (s₁.setTop (mkF m 3 #[.val (.int p1), .unset, .unset, .unset] [(.int (p1 &&& (3 : Int32)))])) _
    refine XS.istoreN X0.here hx rfl (hb hby d1_3) rfl (l' := #[.val (.int p1), .val (.int (p1 &&& (3 : Int32))), .unset, .unset]) rfl ?_
    show Steps p.tables e below (s₁.setTop (mkF m 4 #[.val (.int p1), .val (.int (p1 &&& (3 : Int32))), .unset, .unset] [])) _
    refine XS.iloadN X0.here hx rfl (hb hby d1_4) rfl ?_
    show Steps p.tables e below (s₁.setTop (mkF m 5 #[.val (.int p1), .val (.int (p1 &&& (3 : Int32))), .unset, .unset] [(.int p1)])) _
    refine XS.iconst X0.here hx rfl (hb hby d1_5) ?_
    show Steps p.tables e below (s₁.setTop (mkF m 6 #[.val (.int p1), .val (.int (p1 &&& (3 : Int32))), .unset, .unset] [(.int (2 : Int32)), (.int p1)])) _
    refine XS.iushr X0.here hx rfl (hb hby d1_6) rfl ?_
    show Steps p.tables e below (s₁.setTop (mkF m 7 #[.val (.int p1), .val (.int (p1 &&& (3 : Int32))), .unset, .unset] [(.int ((p1.toUInt32 >>> ((2 : Int32) &&& 31).toUInt32).toInt32))])) _
    refine XS.istoreN X0.here hx rfl (hb hby d1_7) rfl (l' := #[.val (.int p1), .val (.int (p1 &&& (3 : Int32))), .val (.int ((p1.toUInt32 >>> ((2 : Int32) &&& 31).toUInt32).toInt32)), .unset]) rfl ?_
    show Steps p.tables e below (s₁.setTop (mkF m 8 #[.val (.int p1), .val (.int (p1 &&& (3 : Int32))), .val (.int ((p1.toUInt32 >>> ((2 : Int32) &&& 31).toUInt32).toInt32)), .unset] [])) _
    refine XS.iloadN X0.here hx rfl (hb hby d1_8) rfl ?_
    show Steps p.tables e below (s₁.setTop (mkF m 9 #[.val (.int p1), .val (.int (p1 &&& (3 : Int32))), .val (.int ((p1.toUInt32 >>> ((2 : Int32) &&& 31).toUInt32).toInt32)), .unset] [(.int (p1 &&& (3 : Int32)))])) _
    refine XS.iconst X0.here hx rfl (hb hby d1_9) ?_
    show Steps p.tables e below (s₁.setTop (mkF m 10 #[.val (.int p1), .val (.int (p1 &&& (3 : Int32))), .val (.int ((p1.toUInt32 >>> ((2 : Int32) &&& 31).toUInt32).toInt32)), .unset] [(.int (1 : Int32)), (.int (p1 &&& (3 : Int32)))])) _
    exact k
  by_cases hc2 : (p1 &&& (3 : Int32)) = (1 : Int32)
  · obtain ⟨fs, hr, hrun, hended, hW, hsame⟩ := X0.leave (v := some (.int (nar .char (((55296 : Int32) + (((p1.toUInt32 >>> ((2 : Int32) &&& 31).toUInt32).toInt32) &&& (1023 : Int32))).toUInt32.toUInt16.toUInt32.toInt32)))) (fun h => by rw [Bd.returns] at h; cases h)
    have KF := K1
    rw [hG] at KF
    refine ⟨_, _, KF _ ?_, hrun, hended, _, _, rfl, ?_, ⟨_, rfl⟩, hW, hsame.mono (by decide) (by decide)⟩
    · show Steps p.tables e below (s₁.setTop (mkF m 10 #[.val (.int p1), .val (.int (p1 &&& (3 : Int32))), .val (.int ((p1.toUInt32 >>> ((2 : Int32) &&& 31).toUInt32).toInt32)), .unset] [(.int (1 : Int32)), (.int (p1 &&& (3 : Int32)))])) _
      refine XS.icmpNo X0.here hx rfl (hb hby d1_10) rfl (teq hc2).2 ?_
      show Steps p.tables e below (s₁.setTop (mkF m 13 #[.val (.int p1), .val (.int (p1 &&& (3 : Int32))), .val (.int ((p1.toUInt32 >>> ((2 : Int32) &&& 31).toUInt32).toInt32)), .unset] [])) _
      refine X0.ldcInt hx hown (mvT hZ (hw _ (List.mem_of_getElem? (i := 7) rfl))) (g := (mkF m 13 #[.val (.int p1), .val (.int (p1 &&& (3 : Int32))), .val (.int ((p1.toUInt32 >>> ((2 : Int32) &&& 31).toUInt32).toInt32)), .unset] [])) rfl (hb hby d1_13) _ ?_
      show Steps p.tables e below (s₁.setTop (mkF m 15 #[.val (.int p1), .val (.int (p1 &&& (3 : Int32))), .val (.int ((p1.toUInt32 >>> ((2 : Int32) &&& 31).toUInt32).toInt32)), .unset] [(.int (55296 : Int32))])) _
      refine XS.iloadN X0.here hx rfl (hb hby d1_15) rfl ?_
      show Steps p.tables e below (s₁.setTop (mkF m 16 #[.val (.int p1), .val (.int (p1 &&& (3 : Int32))), .val (.int ((p1.toUInt32 >>> ((2 : Int32) &&& 31).toUInt32).toInt32)), .unset] [(.int ((p1.toUInt32 >>> ((2 : Int32) &&& 31).toUInt32).toInt32)), (.int (55296 : Int32))])) _
      refine XS.sipush X0.here hx rfl (hb hby d1_16) ?_
      show Steps p.tables e below (s₁.setTop (mkF m 19 #[.val (.int p1), .val (.int (p1 &&& (3 : Int32))), .val (.int ((p1.toUInt32 >>> ((2 : Int32) &&& 31).toUInt32).toInt32)), .unset] [(.int (1023 : Int32)), (.int ((p1.toUInt32 >>> ((2 : Int32) &&& 31).toUInt32).toInt32)), (.int (55296 : Int32))])) _
      refine XS.iand X0.here hx rfl (hb hby d1_19) rfl ?_
      show Steps p.tables e below (s₁.setTop (mkF m 20 #[.val (.int p1), .val (.int (p1 &&& (3 : Int32))), .val (.int ((p1.toUInt32 >>> ((2 : Int32) &&& 31).toUInt32).toInt32)), .unset] [(.int (((p1.toUInt32 >>> ((2 : Int32) &&& 31).toUInt32).toInt32) &&& (1023 : Int32))), (.int (55296 : Int32))])) _
      refine XS.iadd X0.here hx rfl (hb hby d1_20) rfl ?_
      show Steps p.tables e below (s₁.setTop (mkF m 21 #[.val (.int p1), .val (.int (p1 &&& (3 : Int32))), .val (.int ((p1.toUInt32 >>> ((2 : Int32) &&& 31).toUInt32).toInt32)), .unset] [(.int ((55296 : Int32) + (((p1.toUInt32 >>> ((2 : Int32) &&& 31).toUInt32).toInt32) &&& (1023 : Int32))))])) _
      refine XS.i2c X0.here hx rfl (hb hby d1_21) rfl ?_
      show Steps p.tables e below (s₁.setTop (mkF m 22 #[.val (.int p1), .val (.int (p1 &&& (3 : Int32))), .val (.int ((p1.toUInt32 >>> ((2 : Int32) &&& 31).toUInt32).toInt32)), .unset] [(.int (((55296 : Int32) + (((p1.toUInt32 >>> ((2 : Int32) &&& 31).toUInt32).toInt32) &&& (1023 : Int32))).toUInt32.toUInt16.toUInt32.toInt32))])) _
      exact retN X0 hx (t := .char) Bd.returns (by simp) (hb hby d1_22) hr
    · show Q1 h0 n0 _ s₁.heap _
      rw [e0]
      exact ⟨_, rfl, N0, rfl⟩
  · have K3 : ∀ t, Steps p.tables e below (s₁.setTop (mkF m 25 #[.val (.int p1), .val (.int (p1 &&& (3 : Int32))), .val (.int ((p1.toUInt32 >>> ((2 : Int32) &&& 31).toUInt32).toInt32)), .unset] [(.int (2 : Int32)), (.int (p1 &&& (3 : Int32)))])) t → Steps p.tables e below G t := by
      intro t k
      refine K1 t ?_
      show Steps p.tables e below (s₁.setTop (mkF m 10 #[.val (.int p1), .val (.int (p1 &&& (3 : Int32))), .val (.int ((p1.toUInt32 >>> ((2 : Int32) &&& 31).toUInt32).toInt32)), .unset] [(.int (1 : Int32)), (.int (p1 &&& (3 : Int32)))])) _
      refine XS.icmpYes X0.here hx rfl (pc0 := 10) (pc' := 23) rfl (hb hby d1_10) rfl (feq hc2).2 (by decide) (by decide) ?_
      show Steps p.tables e below (s₁.setTop (mkF m 23 #[.val (.int p1), .val (.int (p1 &&& (3 : Int32))), .val (.int ((p1.toUInt32 >>> ((2 : Int32) &&& 31).toUInt32).toInt32)), .unset] [])) _
      refine XS.iloadN X0.here hx rfl (hb hby d1_23) rfl ?_
      show Steps p.tables e below (s₁.setTop (mkF m 24 #[.val (.int p1), .val (.int (p1 &&& (3 : Int32))), .val (.int ((p1.toUInt32 >>> ((2 : Int32) &&& 31).toUInt32).toInt32)), .unset] [(.int (p1 &&& (3 : Int32)))])) _
      refine XS.iconst X0.here hx rfl (hb hby d1_24) ?_
      show Steps p.tables e below (s₁.setTop (mkF m 25 #[.val (.int p1), .val (.int (p1 &&& (3 : Int32))), .val (.int ((p1.toUInt32 >>> ((2 : Int32) &&& 31).toUInt32).toInt32)), .unset] [(.int (2 : Int32)), (.int (p1 &&& (3 : Int32)))])) _
      exact k
    by_cases hc4 : (p1 &&& (3 : Int32)) = (2 : Int32)
    · obtain ⟨fs, hr, hrun, hended, hW, hsame⟩ := X0.leave (v := some (.int (nar .char (((56320 : Int32) + (((p1.toUInt32 >>> ((2 : Int32) &&& 31).toUInt32).toInt32) &&& (1023 : Int32))).toUInt32.toUInt16.toUInt32.toInt32)))) (fun h => by rw [Bd.returns] at h; cases h)
      have KF := K3
      rw [hG] at KF
      refine ⟨_, _, KF _ ?_, hrun, hended, _, _, rfl, ?_, ⟨_, rfl⟩, hW, hsame.mono (by decide) (by decide)⟩
      · show Steps p.tables e below (s₁.setTop (mkF m 25 #[.val (.int p1), .val (.int (p1 &&& (3 : Int32))), .val (.int ((p1.toUInt32 >>> ((2 : Int32) &&& 31).toUInt32).toInt32)), .unset] [(.int (2 : Int32)), (.int (p1 &&& (3 : Int32)))])) _
        refine XS.icmpNo X0.here hx rfl (hb hby d1_25) rfl (teq hc4).2 ?_
        show Steps p.tables e below (s₁.setTop (mkF m 28 #[.val (.int p1), .val (.int (p1 &&& (3 : Int32))), .val (.int ((p1.toUInt32 >>> ((2 : Int32) &&& 31).toUInt32).toInt32)), .unset] [])) _
        refine X0.ldcInt hx hown (mvT hZ (hw _ (List.mem_of_getElem? (i := 6) rfl))) (g := (mkF m 28 #[.val (.int p1), .val (.int (p1 &&& (3 : Int32))), .val (.int ((p1.toUInt32 >>> ((2 : Int32) &&& 31).toUInt32).toInt32)), .unset] [])) rfl (hb hby d1_28) _ ?_
        show Steps p.tables e below (s₁.setTop (mkF m 30 #[.val (.int p1), .val (.int (p1 &&& (3 : Int32))), .val (.int ((p1.toUInt32 >>> ((2 : Int32) &&& 31).toUInt32).toInt32)), .unset] [(.int (56320 : Int32))])) _
        refine XS.iloadN X0.here hx rfl (hb hby d1_30) rfl ?_
        show Steps p.tables e below (s₁.setTop (mkF m 31 #[.val (.int p1), .val (.int (p1 &&& (3 : Int32))), .val (.int ((p1.toUInt32 >>> ((2 : Int32) &&& 31).toUInt32).toInt32)), .unset] [(.int ((p1.toUInt32 >>> ((2 : Int32) &&& 31).toUInt32).toInt32)), (.int (56320 : Int32))])) _
        refine XS.sipush X0.here hx rfl (hb hby d1_31) ?_
        show Steps p.tables e below (s₁.setTop (mkF m 34 #[.val (.int p1), .val (.int (p1 &&& (3 : Int32))), .val (.int ((p1.toUInt32 >>> ((2 : Int32) &&& 31).toUInt32).toInt32)), .unset] [(.int (1023 : Int32)), (.int ((p1.toUInt32 >>> ((2 : Int32) &&& 31).toUInt32).toInt32)), (.int (56320 : Int32))])) _
        refine XS.iand X0.here hx rfl (hb hby d1_34) rfl ?_
        show Steps p.tables e below (s₁.setTop (mkF m 35 #[.val (.int p1), .val (.int (p1 &&& (3 : Int32))), .val (.int ((p1.toUInt32 >>> ((2 : Int32) &&& 31).toUInt32).toInt32)), .unset] [(.int (((p1.toUInt32 >>> ((2 : Int32) &&& 31).toUInt32).toInt32) &&& (1023 : Int32))), (.int (56320 : Int32))])) _
        refine XS.iadd X0.here hx rfl (hb hby d1_35) rfl ?_
        show Steps p.tables e below (s₁.setTop (mkF m 36 #[.val (.int p1), .val (.int (p1 &&& (3 : Int32))), .val (.int ((p1.toUInt32 >>> ((2 : Int32) &&& 31).toUInt32).toInt32)), .unset] [(.int ((56320 : Int32) + (((p1.toUInt32 >>> ((2 : Int32) &&& 31).toUInt32).toInt32) &&& (1023 : Int32))))])) _
        refine XS.i2c X0.here hx rfl (hb hby d1_36) rfl ?_
        show Steps p.tables e below (s₁.setTop (mkF m 37 #[.val (.int p1), .val (.int (p1 &&& (3 : Int32))), .val (.int ((p1.toUInt32 >>> ((2 : Int32) &&& 31).toUInt32).toInt32)), .unset] [(.int (((56320 : Int32) + (((p1.toUInt32 >>> ((2 : Int32) &&& 31).toUInt32).toInt32) &&& (1023 : Int32))).toUInt32.toUInt16.toUInt32.toInt32))])) _
        exact retN X0 hx (t := .char) Bd.returns (by simp) (hb hby d1_37) hr
      · show Q1 h0 n0 _ s₁.heap _
        rw [e0]
        exact ⟨_, rfl, N0, rfl⟩
    · have K5 : ∀ t, Steps p.tables e below (s₁.setTop (mkF m 40 #[.val (.int p1), .val (.int (p1 &&& (3 : Int32))), .val (.int ((p1.toUInt32 >>> ((2 : Int32) &&& 31).toUInt32).toInt32)), .unset] [(.int (3 : Int32)), (.int (p1 &&& (3 : Int32)))])) t → Steps p.tables e below G t := by
        intro t k
        refine K3 t ?_
        show Steps p.tables e below (s₁.setTop (mkF m 25 #[.val (.int p1), .val (.int (p1 &&& (3 : Int32))), .val (.int ((p1.toUInt32 >>> ((2 : Int32) &&& 31).toUInt32).toInt32)), .unset] [(.int (2 : Int32)), (.int (p1 &&& (3 : Int32)))])) _
        refine XS.icmpYes X0.here hx rfl (pc0 := 25) (pc' := 38) rfl (hb hby d1_25) rfl (feq hc4).2 (by decide) (by decide) ?_
        show Steps p.tables e below (s₁.setTop (mkF m 38 #[.val (.int p1), .val (.int (p1 &&& (3 : Int32))), .val (.int ((p1.toUInt32 >>> ((2 : Int32) &&& 31).toUInt32).toInt32)), .unset] [])) _
        refine XS.iloadN X0.here hx rfl (hb hby d1_38) rfl ?_
        show Steps p.tables e below (s₁.setTop (mkF m 39 #[.val (.int p1), .val (.int (p1 &&& (3 : Int32))), .val (.int ((p1.toUInt32 >>> ((2 : Int32) &&& 31).toUInt32).toInt32)), .unset] [(.int (p1 &&& (3 : Int32)))])) _
        refine XS.iconst X0.here hx rfl (hb hby d1_39) ?_
        show Steps p.tables e below (s₁.setTop (mkF m 40 #[.val (.int p1), .val (.int (p1 &&& (3 : Int32))), .val (.int ((p1.toUInt32 >>> ((2 : Int32) &&& 31).toUInt32).toInt32)), .unset] [(.int (3 : Int32)), (.int (p1 &&& (3 : Int32)))])) _
        exact k
      by_cases hc6 : (p1 &&& (3 : Int32)) = (3 : Int32)
      · have K7 : ∀ t, Steps p.tables e below (s₁.setTop (mkF m 48 #[.val (.int p1), .val (.int (p1 &&& (3 : Int32))), .val (.int ((p1.toUInt32 >>> ((2 : Int32) &&& 31).toUInt32).toInt32)), .val (.int (((p1.toUInt32 >>> ((2 : Int32) &&& 31).toUInt32).toInt32) &&& (3 : Int32)))] [(.int (((p1.toUInt32 >>> ((2 : Int32) &&& 31).toUInt32).toInt32) &&& (3 : Int32)))])) t → Steps p.tables e below G t := by
          intro t k
          refine K5 t ?_
          show Steps p.tables e below (s₁.setTop (mkF m 40 #[.val (.int p1), .val (.int (p1 &&& (3 : Int32))), .val (.int ((p1.toUInt32 >>> ((2 : Int32) &&& 31).toUInt32).toInt32)), .unset] [(.int (3 : Int32)), (.int (p1 &&& (3 : Int32)))])) _
          refine XS.icmpNo X0.here hx rfl (hb hby d1_40) rfl (teq hc6).2 ?_
          show Steps p.tables e below (s₁.setTop (mkF m 43 #[.val (.int p1), .val (.int (p1 &&& (3 : Int32))), .val (.int ((p1.toUInt32 >>> ((2 : Int32) &&& 31).toUInt32).toInt32)), .unset] [])) _
          refine XS.iloadN X0.here hx rfl (hb hby d1_43) rfl ?_
          show Steps p.tables e below (s₁.setTop (mkF m 44 #[.val (.int p1), .val (.int (p1 &&& (3 : Int32))), .val (.int ((p1.toUInt32 >>> ((2 : Int32) &&& 31).toUInt32).toInt32)), .unset] [(.int ((p1.toUInt32 >>> ((2 : Int32) &&& 31).toUInt32).toInt32))])) _
          refine XS.iconst X0.here hx rfl (hb hby d1_44) ?_
          show Steps p.tables e below (s₁.setTop (mkF m 45 #[.val (.int p1), .val (.int (p1 &&& (3 : Int32))), .val (.int ((p1.toUInt32 >>> ((2 : Int32) &&& 31).toUInt32).toInt32)), .unset] [(.int (3 : Int32)), (.int ((p1.toUInt32 >>> ((2 : Int32) &&& 31).toUInt32).toInt32))])) _
          refine XS.iand X0.here hx rfl (hb hby d1_45) rfl ?_
          show Steps p.tables e below (s₁.setTop (mkF m 46 #[.val (.int p1), .val (.int (p1 &&& (3 : Int32))), .val (.int ((p1.toUInt32 >>> ((2 : Int32) &&& 31).toUInt32).toInt32)), .unset] [(.int (((p1.toUInt32 >>> ((2 : Int32) &&& 31).toUInt32).toInt32) &&& (3 : Int32)))])) _
          refine XS.istoreN X0.here hx rfl (hb hby d1_46) rfl (l' := #[.val (.int p1), .val (.int (p1 &&& (3 : Int32))), .val (.int ((p1.toUInt32 >>> ((2 : Int32) &&& 31).toUInt32).toInt32)), .val (.int (((p1.toUInt32 >>> ((2 : Int32) &&& 31).toUInt32).toInt32) &&& (3 : Int32)))]) rfl ?_
          show Steps p.tables e below (s₁.setTop (mkF m 47 #[.val (.int p1), .val (.int (p1 &&& (3 : Int32))), .val (.int ((p1.toUInt32 >>> ((2 : Int32) &&& 31).toUInt32).toInt32)), .val (.int (((p1.toUInt32 >>> ((2 : Int32) &&& 31).toUInt32).toInt32) &&& (3 : Int32)))] [])) _
          refine XS.iloadN X0.here hx rfl (hb hby d1_47) rfl ?_
          show Steps p.tables e below (s₁.setTop (mkF m 48 #[.val (.int p1), .val (.int (p1 &&& (3 : Int32))), .val (.int ((p1.toUInt32 >>> ((2 : Int32) &&& 31).toUInt32).toInt32)), .val (.int (((p1.toUInt32 >>> ((2 : Int32) &&& 31).toUInt32).toInt32) &&& (3 : Int32)))] [(.int (((p1.toUInt32 >>> ((2 : Int32) &&& 31).toUInt32).toInt32) &&& (3 : Int32)))])) _
          exact k
        by_cases hc8 : (((p1.toUInt32 >>> ((2 : Int32) &&& 31).toUInt32).toInt32) &&& (3 : Int32)) = (0 : Int32)
        · obtain ⟨fs, hr, hrun, hended, hW, hsame⟩ := X0.leave (v := some (.int (55295 : Int32))) (fun h => by rw [Bd.returns] at h; cases h)
          have KF := K7
          rw [hG] at KF
          refine ⟨_, _, KF _ ?_, hrun, hended, _, _, rfl, ?_, ⟨_, rfl⟩, hW, hsame.mono (by decide) (by decide)⟩
          · show Steps p.tables e below (s₁.setTop (mkF m 48 #[.val (.int p1), .val (.int (p1 &&& (3 : Int32))), .val (.int ((p1.toUInt32 >>> ((2 : Int32) &&& 31).toUInt32).toInt32)), .val (.int (((p1.toUInt32 >>> ((2 : Int32) &&& 31).toUInt32).toInt32) &&& (3 : Int32)))] [(.int (((p1.toUInt32 >>> ((2 : Int32) &&& 31).toUInt32).toInt32) &&& (3 : Int32)))])) _
            refine XS.ifNo X0.here hx rfl (hb hby d1_48) rfl ((if0 _ _).trans (teq hc8).2) ?_
            show Steps p.tables e below (s₁.setTop (mkF m 51 #[.val (.int p1), .val (.int (p1 &&& (3 : Int32))), .val (.int ((p1.toUInt32 >>> ((2 : Int32) &&& 31).toUInt32).toInt32)), .val (.int (((p1.toUInt32 >>> ((2 : Int32) &&& 31).toUInt32).toInt32) &&& (3 : Int32)))] [])) _
            refine X0.ldcInt hx hown (mvT hZ (hw _ (List.mem_of_getElem? (i := 5) rfl))) (g := (mkF m 51 #[.val (.int p1), .val (.int (p1 &&& (3 : Int32))), .val (.int ((p1.toUInt32 >>> ((2 : Int32) &&& 31).toUInt32).toInt32)), .val (.int (((p1.toUInt32 >>> ((2 : Int32) &&& 31).toUInt32).toInt32) &&& (3 : Int32)))] [])) rfl (hb hby d1_51) _ ?_
            show Steps p.tables e below (s₁.setTop (mkF m 53 #[.val (.int p1), .val (.int (p1 &&& (3 : Int32))), .val (.int ((p1.toUInt32 >>> ((2 : Int32) &&& 31).toUInt32).toInt32)), .val (.int (((p1.toUInt32 >>> ((2 : Int32) &&& 31).toUInt32).toInt32) &&& (3 : Int32)))] [(.int (55295 : Int32))])) _
            exact retN X0 hx (t := .char) Bd.returns (by simp) (hb hby d1_53) hr
          · show Q1 h0 n0 _ s₁.heap _
            rw [e0]
            exact ⟨_, rfl, N0, rfl⟩
        · have K9 : ∀ t, Steps p.tables e below (s₁.setTop (mkF m 56 #[.val (.int p1), .val (.int (p1 &&& (3 : Int32))), .val (.int ((p1.toUInt32 >>> ((2 : Int32) &&& 31).toUInt32).toInt32)), .val (.int (((p1.toUInt32 >>> ((2 : Int32) &&& 31).toUInt32).toInt32) &&& (3 : Int32)))] [(.int (1 : Int32)), (.int (((p1.toUInt32 >>> ((2 : Int32) &&& 31).toUInt32).toInt32) &&& (3 : Int32)))])) t → Steps p.tables e below G t := by
            intro t k
            refine K7 t ?_
            show Steps p.tables e below (s₁.setTop (mkF m 48 #[.val (.int p1), .val (.int (p1 &&& (3 : Int32))), .val (.int ((p1.toUInt32 >>> ((2 : Int32) &&& 31).toUInt32).toInt32)), .val (.int (((p1.toUInt32 >>> ((2 : Int32) &&& 31).toUInt32).toInt32) &&& (3 : Int32)))] [(.int (((p1.toUInt32 >>> ((2 : Int32) &&& 31).toUInt32).toInt32) &&& (3 : Int32)))])) _
            refine XS.ifYes X0.here hx rfl (pc0 := 48) (pc' := 54) rfl (hb hby d1_48) rfl ((if0 _ _).trans (feq hc8).2) (by decide) (by decide) ?_
            show Steps p.tables e below (s₁.setTop (mkF m 54 #[.val (.int p1), .val (.int (p1 &&& (3 : Int32))), .val (.int ((p1.toUInt32 >>> ((2 : Int32) &&& 31).toUInt32).toInt32)), .val (.int (((p1.toUInt32 >>> ((2 : Int32) &&& 31).toUInt32).toInt32) &&& (3 : Int32)))] [])) _
            refine XS.iloadN X0.here hx rfl (hb hby d1_54) rfl ?_
            show Steps p.tables e below (s₁.setTop (mkF m 55 #[.val (.int p1), .val (.int (p1 &&& (3 : Int32))), .val (.int ((p1.toUInt32 >>> ((2 : Int32) &&& 31).toUInt32).toInt32)), .val (.int (((p1.toUInt32 >>> ((2 : Int32) &&& 31).toUInt32).toInt32) &&& (3 : Int32)))] [(.int (((p1.toUInt32 >>> ((2 : Int32) &&& 31).toUInt32).toInt32) &&& (3 : Int32)))])) _
            refine XS.iconst X0.here hx rfl (hb hby d1_55) ?_
            show Steps p.tables e below (s₁.setTop (mkF m 56 #[.val (.int p1), .val (.int (p1 &&& (3 : Int32))), .val (.int ((p1.toUInt32 >>> ((2 : Int32) &&& 31).toUInt32).toInt32)), .val (.int (((p1.toUInt32 >>> ((2 : Int32) &&& 31).toUInt32).toInt32) &&& (3 : Int32)))] [(.int (1 : Int32)), (.int (((p1.toUInt32 >>> ((2 : Int32) &&& 31).toUInt32).toInt32) &&& (3 : Int32)))])) _
            exact k
          by_cases hc10 : (((p1.toUInt32 >>> ((2 : Int32) &&& 31).toUInt32).toInt32) &&& (3 : Int32)) = (1 : Int32)
          · obtain ⟨fs, hr, hrun, hended, hW, hsame⟩ := X0.leave (v := some (.int (57344 : Int32))) (fun h => by rw [Bd.returns] at h; cases h)
            have KF := K9
            rw [hG] at KF
            refine ⟨_, _, KF _ ?_, hrun, hended, _, _, rfl, ?_, ⟨_, rfl⟩, hW, hsame.mono (by decide) (by decide)⟩
            · show Steps p.tables e below (s₁.setTop (mkF m 56 #[.val (.int p1), .val (.int (p1 &&& (3 : Int32))), .val (.int ((p1.toUInt32 >>> ((2 : Int32) &&& 31).toUInt32).toInt32)), .val (.int (((p1.toUInt32 >>> ((2 : Int32) &&& 31).toUInt32).toInt32) &&& (3 : Int32)))] [(.int (1 : Int32)), (.int (((p1.toUInt32 >>> ((2 : Int32) &&& 31).toUInt32).toInt32) &&& (3 : Int32)))])) _
              refine XS.icmpNo X0.here hx rfl (hb hby d1_56) rfl (teq hc10).2 ?_
              show Steps p.tables e below (s₁.setTop (mkF m 59 #[.val (.int p1), .val (.int (p1 &&& (3 : Int32))), .val (.int ((p1.toUInt32 >>> ((2 : Int32) &&& 31).toUInt32).toInt32)), .val (.int (((p1.toUInt32 >>> ((2 : Int32) &&& 31).toUInt32).toInt32) &&& (3 : Int32)))] [])) _
              refine X0.ldcInt hx hown (mvT hZ (hw _ (List.mem_of_getElem? (i := 77) rfl))) (g := (mkF m 59 #[.val (.int p1), .val (.int (p1 &&& (3 : Int32))), .val (.int ((p1.toUInt32 >>> ((2 : Int32) &&& 31).toUInt32).toInt32)), .val (.int (((p1.toUInt32 >>> ((2 : Int32) &&& 31).toUInt32).toInt32) &&& (3 : Int32)))] [])) rfl (hb hby d1_59) _ ?_
              show Steps p.tables e below (s₁.setTop (mkF m 61 #[.val (.int p1), .val (.int (p1 &&& (3 : Int32))), .val (.int ((p1.toUInt32 >>> ((2 : Int32) &&& 31).toUInt32).toInt32)), .val (.int (((p1.toUInt32 >>> ((2 : Int32) &&& 31).toUInt32).toInt32) &&& (3 : Int32)))] [(.int (57344 : Int32))])) _
              exact retN X0 hx (t := .char) Bd.returns (by simp) (hb hby d1_61) hr
            · show Q1 h0 n0 _ s₁.heap _
              rw [e0]
              exact ⟨_, rfl, N0, rfl⟩
          · have K11 : ∀ t, Steps p.tables e below (s₁.setTop (mkF m 64 #[.val (.int p1), .val (.int (p1 &&& (3 : Int32))), .val (.int ((p1.toUInt32 >>> ((2 : Int32) &&& 31).toUInt32).toInt32)), .val (.int (((p1.toUInt32 >>> ((2 : Int32) &&& 31).toUInt32).toInt32) &&& (3 : Int32)))] [(.int (2 : Int32)), (.int (((p1.toUInt32 >>> ((2 : Int32) &&& 31).toUInt32).toInt32) &&& (3 : Int32)))])) t → Steps p.tables e below G t := by
              intro t k
              refine K9 t ?_
              show Steps p.tables e below (s₁.setTop (mkF m 56 #[.val (.int p1), .val (.int (p1 &&& (3 : Int32))), .val (.int ((p1.toUInt32 >>> ((2 : Int32) &&& 31).toUInt32).toInt32)), .val (.int (((p1.toUInt32 >>> ((2 : Int32) &&& 31).toUInt32).toInt32) &&& (3 : Int32)))] [(.int (1 : Int32)), (.int (((p1.toUInt32 >>> ((2 : Int32) &&& 31).toUInt32).toInt32) &&& (3 : Int32)))])) _
              refine XS.icmpYes X0.here hx rfl (pc0 := 56) (pc' := 62) rfl (hb hby d1_56) rfl (feq hc10).2 (by decide) (by decide) ?_
              show Steps p.tables e below (s₁.setTop (mkF m 62 #[.val (.int p1), .val (.int (p1 &&& (3 : Int32))), .val (.int ((p1.toUInt32 >>> ((2 : Int32) &&& 31).toUInt32).toInt32)), .val (.int (((p1.toUInt32 >>> ((2 : Int32) &&& 31).toUInt32).toInt32) &&& (3 : Int32)))] [])) _
              refine XS.iloadN X0.here hx rfl (hb hby d1_62) rfl ?_
              show Steps p.tables e below (s₁.setTop (mkF m 63 #[.val (.int p1), .val (.int (p1 &&& (3 : Int32))), .val (.int ((p1.toUInt32 >>> ((2 : Int32) &&& 31).toUInt32).toInt32)), .val (.int (((p1.toUInt32 >>> ((2 : Int32) &&& 31).toUInt32).toInt32) &&& (3 : Int32)))] [(.int (((p1.toUInt32 >>> ((2 : Int32) &&& 31).toUInt32).toInt32) &&& (3 : Int32)))])) _
              refine XS.iconst X0.here hx rfl (hb hby d1_63) ?_
              show Steps p.tables e below (s₁.setTop (mkF m 64 #[.val (.int p1), .val (.int (p1 &&& (3 : Int32))), .val (.int ((p1.toUInt32 >>> ((2 : Int32) &&& 31).toUInt32).toInt32)), .val (.int (((p1.toUInt32 >>> ((2 : Int32) &&& 31).toUInt32).toInt32) &&& (3 : Int32)))] [(.int (2 : Int32)), (.int (((p1.toUInt32 >>> ((2 : Int32) &&& 31).toUInt32).toInt32) &&& (3 : Int32)))])) _
              exact k
            by_cases hc12 : (((p1.toUInt32 >>> ((2 : Int32) &&& 31).toUInt32).toInt32) &&& (3 : Int32)) = (2 : Int32)
            · obtain ⟨fs, hr, hrun, hended, hW, hsame⟩ := X0.leave (v := some (.int (56319 : Int32))) (fun h => by rw [Bd.returns] at h; cases h)
              have KF := K11
              rw [hG] at KF
              refine ⟨_, _, KF _ ?_, hrun, hended, _, _, rfl, ?_, ⟨_, rfl⟩, hW, hsame.mono (by decide) (by decide)⟩
              · show Steps p.tables e below (s₁.setTop (mkF m 64 #[.val (.int p1), .val (.int (p1 &&& (3 : Int32))), .val (.int ((p1.toUInt32 >>> ((2 : Int32) &&& 31).toUInt32).toInt32)), .val (.int (((p1.toUInt32 >>> ((2 : Int32) &&& 31).toUInt32).toInt32) &&& (3 : Int32)))] [(.int (2 : Int32)), (.int (((p1.toUInt32 >>> ((2 : Int32) &&& 31).toUInt32).toInt32) &&& (3 : Int32)))])) _
                refine XS.icmpNo X0.here hx rfl (hb hby d1_64) rfl (teq hc12).2 ?_
                show Steps p.tables e below (s₁.setTop (mkF m 67 #[.val (.int p1), .val (.int (p1 &&& (3 : Int32))), .val (.int ((p1.toUInt32 >>> ((2 : Int32) &&& 31).toUInt32).toInt32)), .val (.int (((p1.toUInt32 >>> ((2 : Int32) &&& 31).toUInt32).toInt32) &&& (3 : Int32)))] [])) _
                refine X0.ldcInt hx hown (mvT hZ (hw _ (List.mem_of_getElem? (i := 78) rfl))) (g := (mkF m 67 #[.val (.int p1), .val (.int (p1 &&& (3 : Int32))), .val (.int ((p1.toUInt32 >>> ((2 : Int32) &&& 31).toUInt32).toInt32)), .val (.int (((p1.toUInt32 >>> ((2 : Int32) &&& 31).toUInt32).toInt32) &&& (3 : Int32)))] [])) rfl (hb hby d1_67) _ ?_
                show Steps p.tables e below (s₁.setTop (mkF m 69 #[.val (.int p1), .val (.int (p1 &&& (3 : Int32))), .val (.int ((p1.toUInt32 >>> ((2 : Int32) &&& 31).toUInt32).toInt32)), .val (.int (((p1.toUInt32 >>> ((2 : Int32) &&& 31).toUInt32).toInt32) &&& (3 : Int32)))] [(.int (56319 : Int32))])) _
                exact retN X0 hx (t := .char) Bd.returns (by simp) (hb hby d1_69) hr
              · show Q1 h0 n0 _ s₁.heap _
                rw [e0]
                exact ⟨_, rfl, N0, rfl⟩
            · obtain ⟨fs, hr, hrun, hended, hW, hsame⟩ := X0.leave (v := some (.int (57343 : Int32))) (fun h => by rw [Bd.returns] at h; cases h)
              have KF := K11
              rw [hG] at KF
              refine ⟨_, _, KF _ ?_, hrun, hended, _, _, rfl, ?_, ⟨_, rfl⟩, hW, hsame.mono (by decide) (by decide)⟩
              · show Steps p.tables e below (s₁.setTop (mkF m 64 #[.val (.int p1), .val (.int (p1 &&& (3 : Int32))), .val (.int ((p1.toUInt32 >>> ((2 : Int32) &&& 31).toUInt32).toInt32)), .val (.int (((p1.toUInt32 >>> ((2 : Int32) &&& 31).toUInt32).toInt32) &&& (3 : Int32)))] [(.int (2 : Int32)), (.int (((p1.toUInt32 >>> ((2 : Int32) &&& 31).toUInt32).toInt32) &&& (3 : Int32)))])) _
                refine XS.icmpYes X0.here hx rfl (pc0 := 64) (pc' := 70) rfl (hb hby d1_64) rfl (feq hc12).2 (by decide) (by decide) ?_
                show Steps p.tables e below (s₁.setTop (mkF m 70 #[.val (.int p1), .val (.int (p1 &&& (3 : Int32))), .val (.int ((p1.toUInt32 >>> ((2 : Int32) &&& 31).toUInt32).toInt32)), .val (.int (((p1.toUInt32 >>> ((2 : Int32) &&& 31).toUInt32).toInt32) &&& (3 : Int32)))] [])) _
                refine X0.ldcInt hx hown (mvT hZ (hw _ (List.mem_of_getElem? (i := 76) rfl))) (g := (mkF m 70 #[.val (.int p1), .val (.int (p1 &&& (3 : Int32))), .val (.int ((p1.toUInt32 >>> ((2 : Int32) &&& 31).toUInt32).toInt32)), .val (.int (((p1.toUInt32 >>> ((2 : Int32) &&& 31).toUInt32).toInt32) &&& (3 : Int32)))] [])) rfl (hb hby d1_70) _ ?_
                show Steps p.tables e below (s₁.setTop (mkF m 72 #[.val (.int p1), .val (.int (p1 &&& (3 : Int32))), .val (.int ((p1.toUInt32 >>> ((2 : Int32) &&& 31).toUInt32).toInt32)), .val (.int (((p1.toUInt32 >>> ((2 : Int32) &&& 31).toUInt32).toInt32) &&& (3 : Int32)))] [(.int (57343 : Int32))])) _
                exact retN X0 hx (t := .char) Bd.returns (by simp) (hb hby d1_72) hr
              · show Q1 h0 n0 _ s₁.heap _
                rw [e0]
                exact ⟨_, rfl, N0, rfl⟩
      · obtain ⟨fs, hr, hrun, hended, hW, hsame⟩ := X0.leave (v := some (.int (nar .char (((p1.toUInt32 >>> ((2 : Int32) &&& 31).toUInt32).toInt32).toUInt32.toUInt16.toUInt32.toInt32)))) (fun h => by rw [Bd.returns] at h; cases h)
        have KF := K5
        rw [hG] at KF
        refine ⟨_, _, KF _ ?_, hrun, hended, _, _, rfl, ?_, ⟨_, rfl⟩, hW, hsame.mono (by decide) (by decide)⟩
        · show Steps p.tables e below (s₁.setTop (mkF m 40 #[.val (.int p1), .val (.int (p1 &&& (3 : Int32))), .val (.int ((p1.toUInt32 >>> ((2 : Int32) &&& 31).toUInt32).toInt32)), .unset] [(.int (3 : Int32)), (.int (p1 &&& (3 : Int32)))])) _
          refine XS.icmpYes X0.here hx rfl (pc0 := 40) (pc' := 73) rfl (hb hby d1_40) rfl (feq hc6).2 (by decide) (by decide) ?_
          show Steps p.tables e below (s₁.setTop (mkF m 73 #[.val (.int p1), .val (.int (p1 &&& (3 : Int32))), .val (.int ((p1.toUInt32 >>> ((2 : Int32) &&& 31).toUInt32).toInt32)), .unset] [])) _
          refine XS.iloadN X0.here hx rfl (hb hby d1_73) rfl ?_
          show Steps p.tables e below (s₁.setTop (mkF m 74 #[.val (.int p1), .val (.int (p1 &&& (3 : Int32))), .val (.int ((p1.toUInt32 >>> ((2 : Int32) &&& 31).toUInt32).toInt32)), .unset] [(.int ((p1.toUInt32 >>> ((2 : Int32) &&& 31).toUInt32).toInt32))])) _
          refine XS.i2c X0.here hx rfl (hb hby d1_74) rfl ?_
          show Steps p.tables e below (s₁.setTop (mkF m 75 #[.val (.int p1), .val (.int (p1 &&& (3 : Int32))), .val (.int ((p1.toUInt32 >>> ((2 : Int32) &&& 31).toUInt32).toInt32)), .unset] [(.int (((p1.toUInt32 >>> ((2 : Int32) &&& 31).toUInt32).toInt32).toUInt32.toUInt16.toUInt32.toInt32))])) _
          exact retN X0 hx (t := .char) Bd.returns (by simp) (hb hby d1_75) hr
        · show Q1 h0 n0 _ s₁.heap _
          rw [e0]
          exact ⟨_, rfl, N0, rfl⟩
def own_con (i sa n e1 e2 : Int32) : Int32 := if i < sa then (0 : Int32) else if i < n then (if sa < i then (if own_hi e1 = (0 : Int32) then (1 : Int32) else if own_lo e2 = (0 : Int32) then (1 : Int32) else (0 : Int32)) else (1 : Int32)) else (0 : Int32)
def Q9 (a1 : Addr) (p1 p2 p3 : Int32) (k : ClassId) (cs : List Value) (e1 e2 : Int32) (h0 : Heap) (n0 : Nat) (v : Option Value) (h : Heap) (L : List Loc) : Prop := v = some (.int (own_con p1 p2 p3 e1 e2)) ∧ Fr n0 L ∧ h = h0
theorem d9_0 : decode method_5_code 0 = .ok (.iload_n 1, 1) := by decide +kernel
theorem d9_1 : decode method_5_code 1 = .ok (.iload_n 2, 1) := by decide +kernel
theorem d9_2 : decode method_5_code 2 = .ok (.if_icmp .lt 8, 3) := by decide +kernel
theorem d9_5 : decode method_5_code 5 = .ok (.iload_n 1, 1) := by decide +kernel
theorem d9_6 : decode method_5_code 6 = .ok (.iload_n 3, 1) := by decide +kernel
theorem d9_7 : decode method_5_code 7 = .ok (.if_icmp .lt 5, 3) := by decide +kernel
theorem d9_10 : decode method_5_code 10 = .ok (.iconst 0, 1) := by decide +kernel
theorem d9_11 : decode method_5_code 11 = .ok (.ireturn, 1) := by decide +kernel
theorem d9_12 : decode method_5_code 12 = .ok (.iload_n 1, 1) := by decide +kernel
theorem d9_13 : decode method_5_code 13 = .ok (.iload_n 2, 1) := by decide +kernel
theorem d9_14 : decode method_5_code 14 = .ok (.if_icmp .le 25, 3) := by decide +kernel
theorem d9_17 : decode method_5_code 17 = .ok (.aload_n 0, 1) := by decide +kernel
theorem d9_18 : decode method_5_code 18 = .ok (.iload_n 1, 1) := by decide +kernel
theorem d9_19 : decode method_5_code 19 = .ok (.iconst 1, 1) := by decide +kernel
theorem d9_20 : decode method_5_code 20 = .ok (.isub, 1) := by decide +kernel
theorem d9_21 : decode method_5_code 21 = .ok (.caload, 1) := by decide +kernel
theorem d9_22 : decode method_5_code 22 = .ok (.invokestatic 13, 3) := by decide +kernel
theorem d9_25 : decode method_5_code 25 = .ok (.ifCond .eq 14, 3) := by decide +kernel
theorem d9_28 : decode method_5_code 28 = .ok (.aload_n 0, 1) := by decide +kernel
theorem d9_29 : decode method_5_code 29 = .ok (.iload_n 1, 1) := by decide +kernel
theorem d9_30 : decode method_5_code 30 = .ok (.caload, 1) := by decide +kernel
theorem d9_31 : decode method_5_code 31 = .ok (.invokestatic 19, 3) := by decide +kernel
theorem d9_34 : decode method_5_code 34 = .ok (.ifCond .eq 5, 3) := by decide +kernel
theorem d9_37 : decode method_5_code 37 = .ok (.iconst 0, 1) := by decide +kernel
theorem d9_38 : decode method_5_code 38 = .ok (.ireturn, 1) := by decide +kernel
theorem d9_39 : decode method_5_code 39 = .ok (.iconst 1, 1) := by decide +kernel
theorem d9_40 : decode method_5_code 40 = .ok (.ireturn, 1) := by decide +kernel
theorem pd_3 : parseMethodDescriptor "(C)Z" = some ⟨[.char], some .boolean⟩ := by decide +kernel
theorem ef_rm9 (m : MethodId) (x0 : Addr) (x1 : Int32) (x2 : Int32) (x3 : Int32) : entryFrame m #[(.ref x0), (.int x1), (.int x2), (.int x3)] 4 = mkF m 0 #[.val (.ref x0), .val (.int x1), .val (.int x2), .val (.int x3)] [] := by first | (simp [entryFrame, mkF, argsToLocals, Value.category]; done) | rfl
set_option maxRecDepth 65536 in
set_option maxHeartbeats 40000000 in
theorem rm9 (l : Launch) (Z : State) (a0 : Array Value) (hw : ∀ d ∈ tables_1, d.before a0 Z = true) (ws : List Jvm.Cond) (a1 : Addr) (p1 p2 p3 : Int32) (k : ClassId) (cs : List Value) (e1 e2 : Int32) (h0 : Heap) (n0 : Nat) (Z0 : n0 ≤ h0.size) (V1 : Arv Z h0 a1 k .char (5 : Int32) cs (Value.int (0 : Int32))) (h1 : p2 < p1 → (¬ (p1 - (1 : Int32)) < 0 ∧ (p1 - (1 : Int32)) < 5) ∧ cs.getD (p1 - (1 : Int32)).toNatClampNeg (Value.int (0 : Int32)) = .int e1) (h2 : (¬ p1 < 0 ∧ p1 < 5) ∧ cs.getD p1.toNatClampNeg (Value.int (0 : Int32)) = .int e2) :
    MetFree l (⟨"org/arborlog/pattern/LineTextCodePointCountPinLaw", "contrib", "([CIII)I"⟩ : MethodName) (head1 (Jvm.Cond.code (⟨"org/arborlog/pattern/LineTextCodePointCountPinLaw", "contrib", "([CIII)I"⟩ : MethodName) method_5_code 4 (some .int) :: ws) ({ frames := 1, cells := 0, slots := 0, locals := 12 } : Room)) (fun a U => a = #[(.ref a1), (.int p1), (.int p2), (.int p3)] ∧ Z.Warmed39 U.vm ∧ U.heap = h0) (fun _ _ _ _ _ => True) (fun _ U o U' => ∃ v L, o = .returned v ∧ Q9 a1 p1 p2 p3 k cs e1 e2 h0 n0 v U'.heap L ∧ FrameEnd U o U' L ({ frames := 1, cells := 0, slots := 0, locals := 12 } : Room).cells ({ frames := 1, cells := 0, slots := 0, locals := 12 } : Room).slots) := by
  refine MetFree.of_bodySF (plainFor_of_name pn_org_arborlog_pattern_LineTextCodePointCountPinLaw) hisR ?_
  intro p e s m args below meth c s₁ Bd hml0 hP hK
  obtain ⟨rfl, hZ, hh⟩ := hP
  have hx := Bd.exec
  have hby := Bd.bytes
  have hml : c.maxLocals = 4 := hml0
  have hown : s.vm.findClass "org/arborlog/pattern/LineTextCodePointCountPinLaw" = some m.cls := findClass_of_methodNamed Bd.named
  have hnm := (name_of_methodNamed Bd.named Bd.method).1
  have X0 : Stand p l e ({ frames := 1, cells := 0, slots := 0, locals := 12 } : Room) s m #[(.ref a1), (.int p1), (.int p2), (.int p3)] below meth c s₁ [] 0 0 := Stand.of_body Bd
  have e0 : s₁.heap = h0 := by rw [← hh, Bd.state]; rfl
  have N0 := Fr.nil n0
  have KP0 : Keep h0 h0 [] := Keep.refl h0 _
  obtain ⟨G, hG⟩ : ∃ G : State, G = s₁.setTop (entryFrame m #[(.ref a1), (.int p1), (.int p2), (.int p3)] 4) := ⟨_, rfl⟩
  have pre0 : ∀ t, Steps p.tables e below (s₁.setTop (mkF m 0 #[.val (.ref a1), .val (.int p1), .val (.int p2), .val (.int p3)] [])) t → Steps p.tables e below G t := fun t k => hG ▸ castTop (ef_rm9 m a1 p1 p2 p3) k
  have K1 : ∀ t, Steps p.tables e below (s₁.setTop (mkF m 2 #[.val (.ref a1), .val (.int p1), .val (.int p2), .val (.int p3)] [(.int p2), (.int p1)])) t → Steps p.tables e below G t := by
    intro t k
    refine pre0 t ?_
    show Steps p.tables e below (s₁.setTop (mkF m 0 #[.val (.ref a1), .val (.int p1), .val (.int p2), .val (.int p3)] [])) _
    refine XS.iloadN X0.here hx rfl (hb hby d9_0) rfl ?_
    show Steps p.tables e below (s₁.setTop (mkF m 1 #[.val (.ref a1), .val (.int p1), .val (.int p2), .val (.int p3)] [(.int p1)])) _
    refine XS.iloadN X0.here hx rfl (hb hby d9_1) rfl ?_
    show Steps p.tables e below (s₁.setTop (mkF m 2 #[.val (.ref a1), .val (.int p1), .val (.int p2), .val (.int p3)] [(.int p2), (.int p1)])) _
    exact k
  by_cases hc2 : p1 < p2
  · obtain ⟨fs, hr, hrun, hended, hW, hsame⟩ := X0.leave (v := some (.int (0 : Int32))) (fun h => by rw [Bd.returns] at h; cases h)
    have KF := K1
    rw [hG] at KF
    refine ⟨_, _, KF _ ?_, hrun, hended, _, _, rfl, ?_, ⟨_, rfl⟩, hW, hsame.mono (by decide) (by decide)⟩
    · show Steps p.tables e below (s₁.setTop (mkF m 2 #[.val (.ref a1), .val (.int p1), .val (.int p2), .val (.int p3)] [(.int p2), (.int p1)])) _
      refine XS.icmpYes X0.here hx rfl (pc0 := 2) (pc' := 10) rfl (hb hby d9_2) rfl (tlt hc2).1 (by decide) (by decide) ?_
      show Steps p.tables e below (s₁.setTop (mkF m 10 #[.val (.ref a1), .val (.int p1), .val (.int p2), .val (.int p3)] [])) _
      refine XS.iconst X0.here hx rfl (hb hby d9_10) ?_
      show Steps p.tables e below (s₁.setTop (mkF m 11 #[.val (.ref a1), .val (.int p1), .val (.int p2), .val (.int p3)] [(.int (0 : Int32))])) _
      exact own_retI X0 hx Bd.returns (hb hby d9_11) hr
    · show Q9 a1 p1 p2 p3 k cs e1 e2 h0 n0 _ s₁.heap _
      rw [e0]
      exact ⟨by simp only [own_con, if_pos hc2], N0, rfl⟩
  · have K3 : ∀ t, Steps p.tables e below (s₁.setTop (mkF m 7 #[.val (.ref a1), .val (.int p1), .val (.int p2), .val (.int p3)] [(.int p3), (.int p1)])) t → Steps p.tables e below G t := by
      intro t k
      refine K1 t ?_
      show Steps p.tables e below (s₁.setTop (mkF m 2 #[.val (.ref a1), .val (.int p1), .val (.int p2), .val (.int p3)] [(.int p2), (.int p1)])) _
      refine XS.icmpNo X0.here hx rfl (hb hby d9_2) rfl (flt hc2).1 ?_
      show Steps p.tables e below (s₁.setTop (mkF m 5 #[.val (.ref a1), .val (.int p1), .val (.int p2), .val (.int p3)] [])) _
      refine XS.iloadN X0.here hx rfl (hb hby d9_5) rfl ?_
      show Steps p.tables e below (s₁.setTop (mkF m 6 #[.val (.ref a1), .val (.int p1), .val (.int p2), .val (.int p3)] [(.int p1)])) _
      refine XS.iloadN X0.here hx rfl (hb hby d9_6) rfl ?_
      show Steps p.tables e below (s₁.setTop (mkF m 7 #[.val (.ref a1), .val (.int p1), .val (.int p2), .val (.int p3)] [(.int p3), (.int p1)])) _
      exact k
    by_cases hc4 : p1 < p3
    · have K5 : ∀ t, Steps p.tables e below (s₁.setTop (mkF m 14 #[.val (.ref a1), .val (.int p1), .val (.int p2), .val (.int p3)] [(.int p2), (.int p1)])) t → Steps p.tables e below G t := by
        intro t k
        refine K3 t ?_
        show Steps p.tables e below (s₁.setTop (mkF m 7 #[.val (.ref a1), .val (.int p1), .val (.int p2), .val (.int p3)] [(.int p3), (.int p1)])) _
        refine XS.icmpYes X0.here hx rfl (pc0 := 7) (pc' := 12) rfl (hb hby d9_7) rfl (tlt hc4).1 (by decide) (by decide) ?_
        show Steps p.tables e below (s₁.setTop (mkF m 12 #[.val (.ref a1), .val (.int p1), .val (.int p2), .val (.int p3)] [])) _
        refine XS.iloadN X0.here hx rfl (hb hby d9_12) rfl ?_
        show Steps p.tables e below (s₁.setTop (mkF m 13 #[.val (.ref a1), .val (.int p1), .val (.int p2), .val (.int p3)] [(.int p1)])) _
        refine XS.iloadN X0.here hx rfl (hb hby d9_13) rfl ?_
        show Steps p.tables e below (s₁.setTop (mkF m 14 #[.val (.ref a1), .val (.int p1), .val (.int p2), .val (.int p3)] [(.int p2), (.int p1)])) _
        exact k
      by_cases hc6 : p2 < p1
      · have K7 : ∀ t, Steps p.tables e below (s₁.setTop (mkF m 21 #[.val (.ref a1), .val (.int p1), .val (.int p2), .val (.int p3)] [(.int (p1 - (1 : Int32))), (.ref a1)])) t → Steps p.tables e below G t := by
          intro t k
          refine K5 t ?_
          show Steps p.tables e below (s₁.setTop (mkF m 14 #[.val (.ref a1), .val (.int p1), .val (.int p2), .val (.int p3)] [(.int p2), (.int p1)])) _
          refine XS.icmpNo X0.here hx rfl (hb hby d9_14) rfl (tlt hc6).2.2.2 ?_
          show Steps p.tables e below (s₁.setTop (mkF m 17 #[.val (.ref a1), .val (.int p1), .val (.int p2), .val (.int p3)] [])) _
          refine XS.aloadN X0.here hx rfl (hb hby d9_17) rfl rfl ?_
          show Steps p.tables e below (s₁.setTop (mkF m 18 #[.val (.ref a1), .val (.int p1), .val (.int p2), .val (.int p3)] [(.ref a1)])) _
          refine XS.iloadN X0.here hx rfl (hb hby d9_18) rfl ?_
          show Steps p.tables e below (s₁.setTop (mkF m 19 #[.val (.ref a1), .val (.int p1), .val (.int p2), .val (.int p3)] [(.int p1), (.ref a1)])) _
          refine XS.iconst X0.here hx rfl (hb hby d9_19) ?_
          show Steps p.tables e below (s₁.setTop (mkF m 20 #[.val (.ref a1), .val (.int p1), .val (.int p2), .val (.int p3)] [(.int (1 : Int32)), (.int p1), (.ref a1)])) _
          refine XS.isub X0.here hx rfl (hb hby d9_20) rfl ?_
          show Steps p.tables e below (s₁.setTop (mkF m 21 #[.val (.ref a1), .val (.int p1), .val (.int p2), .val (.int p3)] [(.int (p1 - (1 : Int32))), (.ref a1)])) _
          exact k
        obtain ⟨cl8, Ar8, qc8, S8, M8, Ha8, Ga8⟩ := id V1
        have hin8 : ¬ ((p1 - (1 : Int32)) < 0 ∨ cl8.slots.size ≤ ((p1 - (1 : Int32))).toNatClampNeg) := inb_of S8 (h1 hc6).1
        have hat8 : cl8.slots[((p1 - (1 : Int32))).toNatClampNeg]? = some (.int e1) := Ha8.at hin8 (h1 hc6).2
        have K9 : ∀ t, Steps p.tables e below (s₁.setTop (mkF m 22 #[.val (.ref a1), .val (.int p1), .val (.int p2), .val (.int p3)] [(.int e1)])) t → Steps p.tables e below G t := fun t k => K7 t (X0.caload hx (j := (p1 - (1 : Int32))) (v := (.int e1)) (by rw [e0]; exact Ar8.1) (State.isArrayOf_alike hZ.alike Ar8.2.1) Ar8.2.2 hin8 hat8 (g := (mkF m 21 #[.val (.ref a1), .val (.int p1), .val (.int p2), .val (.int p3)] [(.int (p1 - (1 : Int32))), (.ref a1)])) rfl rfl (hb hby d9_21) _ k)
        obtain ⟨_, _, ⟨T10, L10, kk10, nn10⟩, -, X10, ⟨Lc10, hQ10, lq10, yq10, zq10⟩, st10⟩ := Jvm.LawKit.callS X0 hx (y := (⟨"org/arborlog/pattern/LineTextCodePointCountPinLaw", "high", "(C)Z"⟩ : MethodName)) hown (mvT hZ (hw _ (List.mem_of_getElem? (i := 48) rfl))) (mvT hZ (hw _ (List.mem_of_getElem? (i := 49) rfl))) (mvT hZ (hw _ (List.mem_of_getElem? (i := 3) rfl))) (mvT hZ (hw _ (List.mem_of_getElem? (i := 50) rfl))) (by decide) (backOf (W := 0) (rm10 l Z a0 hw [] e1 h0 n0 Z0 ) hZ (hw _ (List.mem_of_getElem? (i := 50) rfl)) (hw _ (List.mem_of_getElem? (i := 3) rfl)) (by decide) (by decide)) (g := (mkF m 22 #[.val (.ref a1), .val (.int p1), .val (.int p2), .val (.int p3)] [(.int e1)])) rfl (by rw [hml]; rfl) (argsL := [(.int e1)]) (rest := []) (lenOf pd_3 rfl) rfl (by show 2 * 0 + _ ≤ _; exact Nat.le_of_eq rfl) (hb hby d9_22) (fun _ _ => ⟨rfl, e0, (by decide : 0 + 0 ≤ _), (by decide : 0 + 0 ≤ _)⟩)
        dsimp only [Pt.U, Pt.locs, Pt.cells, Pt.slots] at X10 lq10 yq10 zq10 st10 hQ10
        subst lq10 yq10 zq10
        obtain ⟨rfl, Nq10, e10⟩ := hQ10
        have N11 := Fr.app N0 Nq10
        have K12 : ∀ t, Steps p.tables e below (T10.setTop (mkF m 25 #[.val (.ref a1), .val (.int p1), .val (.int p2), .val (.int p3)] [(.int (own_hi e1))])) t → Steps p.tables e below G t := fun t k => K9 t (st10 _ k)
        by_cases hc13 : (own_hi e1) = (0 : Int32)
        · obtain ⟨fs, hr, hrun, hended, hW, hsame⟩ := X10.leave (v := some (.int (1 : Int32))) (fun h => by rw [Bd.returns] at h; cases h)
          have KF := K12
          rw [hG] at KF
          refine ⟨_, _, KF _ ?_, hrun, hended, _, _, rfl, ?_, ⟨_, rfl⟩, hW, hsame.mono (by decide) (by decide)⟩
          · show Steps p.tables e below (T10.setTop (mkF m 25 #[.val (.ref a1), .val (.int p1), .val (.int p2), .val (.int p3)] [(.int (own_hi e1))])) _
            refine XS.ifYes X10.here hx rfl (pc0 := 25) (pc' := 39) rfl (hb hby d9_25) rfl ((if0 _ _).trans (teq hc13).1) (by decide) (by decide) ?_
            show Steps p.tables e below (T10.setTop (mkF m 39 #[.val (.ref a1), .val (.int p1), .val (.int p2), .val (.int p3)] [])) _
            refine XS.iconst X10.here hx rfl (hb hby d9_39) ?_
            show Steps p.tables e below (T10.setTop (mkF m 40 #[.val (.ref a1), .val (.int p1), .val (.int p2), .val (.int p3)] [(.int (1 : Int32))])) _
            exact own_retI X10 hx Bd.returns (hb hby d9_40) hr
          · show Q9 a1 p1 p2 p3 k cs e1 e2 h0 n0 _ T10.heap _
            rw [e10]
            exact ⟨by simp only [own_con, if_neg hc2, if_pos hc4, if_pos hc6, if_pos hc13], N11, rfl⟩
        · have K14 : ∀ t, Steps p.tables e below (T10.setTop (mkF m 30 #[.val (.ref a1), .val (.int p1), .val (.int p2), .val (.int p3)] [(.int p1), (.ref a1)])) t → Steps p.tables e below G t := by
            intro t k
            refine K12 t ?_
            show Steps p.tables e below (T10.setTop (mkF m 25 #[.val (.ref a1), .val (.int p1), .val (.int p2), .val (.int p3)] [(.int (own_hi e1))])) _
            refine XS.ifNo X10.here hx rfl (hb hby d9_25) rfl ((if0 _ _).trans (feq hc13).1) ?_
            show Steps p.tables e below (T10.setTop (mkF m 28 #[.val (.ref a1), .val (.int p1), .val (.int p2), .val (.int p3)] [])) _
            refine XS.aloadN X10.here hx rfl (hb hby d9_28) rfl rfl ?_
            show Steps p.tables e below (T10.setTop (mkF m 29 #[.val (.ref a1), .val (.int p1), .val (.int p2), .val (.int p3)] [(.ref a1)])) _
            refine XS.iloadN X10.here hx rfl (hb hby d9_29) rfl ?_
            show Steps p.tables e below (T10.setTop (mkF m 30 #[.val (.ref a1), .val (.int p1), .val (.int p2), .val (.int p3)] [(.int p1), (.ref a1)])) _
            exact k
          obtain ⟨cl15, Ar15, qc15, S15, M15, Ha15, Ga15⟩ := id V1
          have hin15 : ¬ (p1 < 0 ∨ cl15.slots.size ≤ (p1).toNatClampNeg) := inb_of S15 h2.1
          have hat15 : cl15.slots[(p1).toNatClampNeg]? = some (.int e2) := Ha15.at hin15 h2.2
          have K16 : ∀ t, Steps p.tables e below (T10.setTop (mkF m 31 #[.val (.ref a1), .val (.int p1), .val (.int p2), .val (.int p3)] [(.int e2)])) t → Steps p.tables e below G t := fun t k => K14 t (X10.caload hx (j := p1) (v := (.int e2)) (by rw [e10]; exact Ar15.1) (State.isArrayOf_alike hZ.alike Ar15.2.1) Ar15.2.2 hin15 hat15 (g := (mkF m 30 #[.val (.ref a1), .val (.int p1), .val (.int p2), .val (.int p3)] [(.int p1), (.ref a1)])) rfl rfl (hb hby d9_30) _ k)
          obtain ⟨_, _, ⟨T17, L17, kk17, nn17⟩, -, X17, ⟨Lc17, hQ17, lq17, yq17, zq17⟩, st17⟩ := Jvm.LawKit.callS X10 hx (y := (⟨"org/arborlog/pattern/LineTextCodePointCountPinLaw", "low", "(C)Z"⟩ : MethodName)) hown (mvT hZ (hw _ (List.mem_of_getElem? (i := 79) rfl))) (mvT hZ (hw _ (List.mem_of_getElem? (i := 80) rfl))) (mvT hZ (hw _ (List.mem_of_getElem? (i := 3) rfl))) (mvT hZ (hw _ (List.mem_of_getElem? (i := 81) rfl))) (by decide) (backOf (W := 0) (rm17 l Z a0 hw [] e2 h0 n0 Z0 ) hZ (hw _ (List.mem_of_getElem? (i := 81) rfl)) (hw _ (List.mem_of_getElem? (i := 3) rfl)) (by decide) (by decide)) (g := (mkF m 31 #[.val (.ref a1), .val (.int p1), .val (.int p2), .val (.int p3)] [(.int e2)])) rfl (by rw [hml]; rfl) (argsL := [(.int e2)]) (rest := []) (lenOf pd_3 rfl) rfl (by show 2 * 0 + _ ≤ _; exact Nat.le_of_eq rfl) (hb hby d9_31) (fun _ _ => ⟨rfl, e10, (by decide : 0 + 0 ≤ _), (by decide : 0 + 0 ≤ _)⟩)
          dsimp only [Pt.U, Pt.locs, Pt.cells, Pt.slots] at X17 lq17 yq17 zq17 st17 hQ17
          subst lq17 yq17 zq17
          obtain ⟨rfl, Nq17, e17⟩ := hQ17
          have N18 := Fr.app N11 Nq17
          have K19 : ∀ t, Steps p.tables e below (T17.setTop (mkF m 34 #[.val (.ref a1), .val (.int p1), .val (.int p2), .val (.int p3)] [(.int (own_lo e2))])) t → Steps p.tables e below G t := fun t k => K16 t (st17 _ k)
          by_cases hc20 : (own_lo e2) = (0 : Int32)
          · obtain ⟨fs, hr, hrun, hended, hW, hsame⟩ := X17.leave (v := some (.int (1 : Int32))) (fun h => by rw [Bd.returns] at h; cases h)
            have KF := K19
            rw [hG] at KF
            refine ⟨_, _, KF _ ?_, hrun, hended, _, _, rfl, ?_, ⟨_, rfl⟩, hW, hsame.mono (by decide) (by decide)⟩
            · show Steps p.tables e below (T17.setTop (mkF m 34 #[.val (.ref a1), .val (.int p1), .val (.int p2), .val (.int p3)] [(.int (own_lo e2))])) _
              refine XS.ifYes X17.here hx rfl (pc0 := 34) (pc' := 39) rfl (hb hby d9_34) rfl ((if0 _ _).trans (teq hc20).1) (by decide) (by decide) ?_
              show Steps p.tables e below (T17.setTop (mkF m 39 #[.val (.ref a1), .val (.int p1), .val (.int p2), .val (.int p3)] [])) _
              refine XS.iconst X17.here hx rfl (hb hby d9_39) ?_
              show Steps p.tables e below (T17.setTop (mkF m 40 #[.val (.ref a1), .val (.int p1), .val (.int p2), .val (.int p3)] [(.int (1 : Int32))])) _
              exact own_retI X17 hx Bd.returns (hb hby d9_40) hr
            · show Q9 a1 p1 p2 p3 k cs e1 e2 h0 n0 _ T17.heap _
              rw [e17]
              exact ⟨by simp only [own_con, if_neg hc2, if_pos hc4, if_pos hc6, if_neg hc13, if_pos hc20], N18, rfl⟩
          · obtain ⟨fs, hr, hrun, hended, hW, hsame⟩ := X17.leave (v := some (.int (0 : Int32))) (fun h => by rw [Bd.returns] at h; cases h)
            have KF := K19
            rw [hG] at KF
            refine ⟨_, _, KF _ ?_, hrun, hended, _, _, rfl, ?_, ⟨_, rfl⟩, hW, hsame.mono (by decide) (by decide)⟩
            · show Steps p.tables e below (T17.setTop (mkF m 34 #[.val (.ref a1), .val (.int p1), .val (.int p2), .val (.int p3)] [(.int (own_lo e2))])) _
              refine XS.ifNo X17.here hx rfl (hb hby d9_34) rfl ((if0 _ _).trans (feq hc20).1) ?_
              show Steps p.tables e below (T17.setTop (mkF m 37 #[.val (.ref a1), .val (.int p1), .val (.int p2), .val (.int p3)] [])) _
              refine XS.iconst X17.here hx rfl (hb hby d9_37) ?_
              show Steps p.tables e below (T17.setTop (mkF m 38 #[.val (.ref a1), .val (.int p1), .val (.int p2), .val (.int p3)] [(.int (0 : Int32))])) _
              exact own_retI X17 hx Bd.returns (hb hby d9_38) hr
            · show Q9 a1 p1 p2 p3 k cs e1 e2 h0 n0 _ T17.heap _
              rw [e17]
              exact ⟨by simp only [own_con, if_neg hc2, if_pos hc4, if_pos hc6, if_neg hc13, if_neg hc20], N18, rfl⟩
      · obtain ⟨fs, hr, hrun, hended, hW, hsame⟩ := X0.leave (v := some (.int (1 : Int32))) (fun h => by rw [Bd.returns] at h; cases h)
        have KF := K5
        rw [hG] at KF
        refine ⟨_, _, KF _ ?_, hrun, hended, _, _, rfl, ?_, ⟨_, rfl⟩, hW, hsame.mono (by decide) (by decide)⟩
        · show Steps p.tables e below (s₁.setTop (mkF m 14 #[.val (.ref a1), .val (.int p1), .val (.int p2), .val (.int p3)] [(.int p2), (.int p1)])) _
          refine XS.icmpYes X0.here hx rfl (pc0 := 14) (pc' := 39) rfl (hb hby d9_14) rfl (flt hc6).2.2.2 (by decide) (by decide) ?_
          show Steps p.tables e below (s₁.setTop (mkF m 39 #[.val (.ref a1), .val (.int p1), .val (.int p2), .val (.int p3)] [])) _
          refine XS.iconst X0.here hx rfl (hb hby d9_39) ?_
          show Steps p.tables e below (s₁.setTop (mkF m 40 #[.val (.ref a1), .val (.int p1), .val (.int p2), .val (.int p3)] [(.int (1 : Int32))])) _
          exact own_retI X0 hx Bd.returns (hb hby d9_40) hr
        · show Q9 a1 p1 p2 p3 k cs e1 e2 h0 n0 _ s₁.heap _
          rw [e0]
          exact ⟨by simp only [own_con, if_neg hc2, if_pos hc4, if_neg hc6], N0, rfl⟩
    · obtain ⟨fs, hr, hrun, hended, hW, hsame⟩ := X0.leave (v := some (.int (0 : Int32))) (fun h => by rw [Bd.returns] at h; cases h)
      have KF := K3
      rw [hG] at KF
      refine ⟨_, _, KF _ ?_, hrun, hended, _, _, rfl, ?_, ⟨_, rfl⟩, hW, hsame.mono (by decide) (by decide)⟩
      · show Steps p.tables e below (s₁.setTop (mkF m 7 #[.val (.ref a1), .val (.int p1), .val (.int p2), .val (.int p3)] [(.int p3), (.int p1)])) _
        refine XS.icmpNo X0.here hx rfl (hb hby d9_7) rfl (flt hc4).1 ?_
        show Steps p.tables e below (s₁.setTop (mkF m 10 #[.val (.ref a1), .val (.int p1), .val (.int p2), .val (.int p3)] [])) _
        refine XS.iconst X0.here hx rfl (hb hby d9_10) ?_
        show Steps p.tables e below (s₁.setTop (mkF m 11 #[.val (.ref a1), .val (.int p1), .val (.int p2), .val (.int p3)] [(.int (0 : Int32))])) _
        exact own_retI X0 hx Bd.returns (hb hby d9_11) hr
      · show Q9 a1 p1 p2 p3 k cs e1 e2 h0 n0 _ s₁.heap _
        rw [e0]
        exact ⟨by simp only [own_con, if_neg hc2, if_neg hc4], N0, rfl⟩
def Q14 (p1 p2 p3 : Int32) (h0 : Heap) (n0 : Nat) (v : Option Value) (h : Heap) (L : List Loc) : Prop := v = some (.int p1) ∧ Fr n0 L ∧ h = h0
theorem d14_0 : decode jdk_41_method_13_code 0 = .ok (.iload_n 2, 1) := by decide +kernel
theorem d14_1 : decode jdk_41_method_13_code 1 = .ok (.iload_n 0, 1) := by decide +kernel
theorem d14_2 : decode jdk_41_method_13_code 2 = .ok (.ior, 1) := by decide +kernel
theorem d14_3 : decode jdk_41_method_13_code 3 = .ok (.iload_n 1, 1) := by decide +kernel
theorem d14_4 : decode jdk_41_method_13_code 4 = .ok (.ior, 1) := by decide +kernel
theorem d14_5 : decode jdk_41_method_13_code 5 = .ok (.ifCond .lt 10, 3) := by decide +kernel
theorem d14_8 : decode jdk_41_method_13_code 8 = .ok (.iload_n 1, 1) := by decide +kernel
theorem d14_9 : decode jdk_41_method_13_code 9 = .ok (.iload_n 2, 1) := by decide +kernel
theorem d14_10 : decode jdk_41_method_13_code 10 = .ok (.iload_n 0, 1) := by decide +kernel
theorem d14_11 : decode jdk_41_method_13_code 11 = .ok (.isub, 1) := by decide +kernel
theorem d14_12 : decode jdk_41_method_13_code 12 = .ok (.if_icmp .le 11, 3) := by decide +kernel
theorem d14_15 : decode jdk_41_method_13_code 15 = .ok (.aload_n 3, 1) := by decide +kernel
theorem d14_16 : decode jdk_41_method_13_code 16 = .ok (.iload_n 0, 1) := by decide +kernel
theorem d14_17 : decode jdk_41_method_13_code 17 = .ok (.iload_n 1, 1) := by decide +kernel
theorem d14_18 : decode jdk_41_method_13_code 18 = .ok (.iload_n 2, 1) := by decide +kernel
theorem d14_19 : decode jdk_41_method_13_code 19 = .ok (.invokestatic 103, 3) := by decide +kernel
theorem d14_22 : decode jdk_41_method_13_code 22 = .ok (.athrow, 1) := by decide +kernel
theorem d14_23 : decode jdk_41_method_13_code 23 = .ok (.iload_n 0, 1) := by decide +kernel
theorem d14_24 : decode jdk_41_method_13_code 24 = .ok (.ireturn, 1) := by decide +kernel
theorem pn_jdk_internal_util_Preconditions : plainName "jdk/internal/util/Preconditions" = true := by first | (simp [plainName, overriddenIn]; done) | decide +kernel
theorem ef_rm14 (m : MethodId) (x0 : Int32) (x1 : Int32) (x2 : Int32) : entryFrame m #[(.int x0), (.int x1), (.int x2), .null] 4 = mkF m 0 #[.val (.int x0), .val (.int x1), .val (.int x2), .val .null] [] := by first | (simp [entryFrame, mkF, argsToLocals, Value.category]; done) | rfl
set_option maxRecDepth 65536 in
set_option maxHeartbeats 40000000 in
theorem rm14 (l : Launch) (Z : State) (a0 : Array Value) (hw : ∀ d ∈ tables_1, d.before a0 Z = true) (ws : List Jvm.Cond) (p1 p2 p3 : Int32) (h0 : Heap) (n0 : Nat) (Z0 : n0 ≤ h0.size) (hor : ¬ ((p3 ||| p1) ||| p2) < 0) (hle : ¬ (p3 - p1) < p2) :
    MetFree l (⟨"jdk/internal/util/Preconditions", "checkFromIndexSize", "(IIILjava/util/function/BiFunction;)I"⟩ : MethodName) (head1 (Jvm.Cond.code (⟨"jdk/internal/util/Preconditions", "checkFromIndexSize", "(IIILjava/util/function/BiFunction;)I"⟩ : MethodName) jdk_41_method_13_code 4 (some .int) :: ws) ({ frames := 0, cells := 0, slots := 0, locals := 0 } : Room)) (fun a U => a = #[(.int p1), (.int p2), (.int p3), .null] ∧ Z.Warmed39 U.vm ∧ U.heap = h0) (fun _ _ _ _ _ => True) (fun _ U o U' => ∃ v L, o = .returned v ∧ Q14 p1 p2 p3 h0 n0 v U'.heap L ∧ FrameEnd U o U' L ({ frames := 0, cells := 0, slots := 0, locals := 0 } : Room).cells ({ frames := 0, cells := 0, slots := 0, locals := 0 } : Room).slots) := by
  refine MetFree.of_bodySF (plainFor_of_name pn_jdk_internal_util_Preconditions) hisR ?_
  intro p e s m args below meth c s₁ Bd hml0 hP hK
  obtain ⟨rfl, hZ, hh⟩ := hP
  have hx := Bd.exec
  have hby := Bd.bytes
  have hml : c.maxLocals = 4 := hml0
  have hown : s.vm.findClass "jdk/internal/util/Preconditions" = some m.cls := findClass_of_methodNamed Bd.named
  have hnm := (name_of_methodNamed Bd.named Bd.method).1
  have X0 : Stand p l e ({ frames := 0, cells := 0, slots := 0, locals := 0 } : Room) s m #[(.int p1), (.int p2), (.int p3), .null] below meth c s₁ [] 0 0 := Stand.of_body Bd
  have e0 : s₁.heap = h0 := by rw [← hh, Bd.state]; rfl
  have N0 := Fr.nil n0
  have KP0 : Keep h0 h0 [] := Keep.refl h0 _
  obtain ⟨G, hG⟩ : ∃ G : State, G = s₁.setTop (entryFrame m #[(.int p1), (.int p2), (.int p3), .null] 4) := ⟨_, rfl⟩
  have pre0 : ∀ t, Steps p.tables e below (s₁.setTop (mkF m 0 #[.val (.int p1), .val (.int p2), .val (.int p3), .val .null] [])) t → Steps p.tables e below G t := fun t k => hG ▸ castTop (ef_rm14 m p1 p2 p3) k
  obtain ⟨fs, hr, hrun, hended, hW, hsame⟩ := X0.leave (v := some (.int p1)) (fun h => by rw [Bd.returns] at h; cases h)
  have KF := pre0
  rw [hG] at KF
  refine ⟨_, _, KF _ ?_, hrun, hended, _, _, rfl, ?_, ⟨_, rfl⟩, hW, hsame.mono (by decide) (by decide)⟩
  · show Steps p.tables e below (s₁.setTop (mkF m 0 #[.val (.int p1), .val (.int p2), .val (.int p3), .val .null] [])) _
    refine XS.iloadN X0.here hx rfl (hb hby d14_0) rfl ?_
    show Steps p.tables e below (s₁.setTop (mkF m 1 #[.val (.int p1), .val (.int p2), .val (.int p3), .val .null] [(.int p3)])) _
    refine XS.iloadN X0.here hx rfl (hb hby d14_1) rfl ?_
    show Steps p.tables e below (s₁.setTop (mkF m 2 #[.val (.int p1), .val (.int p2), .val (.int p3), .val .null] [(.int p1), (.int p3)])) _
    refine XS.ior X0.here hx rfl (hb hby d14_2) rfl ?_
    show Steps p.tables e below (s₁.setTop (mkF m 3 #[.val (.int p1), .val (.int p2), .val (.int p3), .val .null] [(.int (p3 ||| p1))])) _
    refine XS.iloadN X0.here hx rfl (hb hby d14_3) rfl ?_
    show Steps p.tables e below (s₁.setTop (mkF m 4 #[.val (.int p1), .val (.int p2), .val (.int p3), .val .null] [(.int p2), (.int (p3 ||| p1))])) _
    refine XS.ior X0.here hx rfl (hb hby d14_4) rfl ?_
    show Steps p.tables e below (s₁.setTop (mkF m 5 #[.val (.int p1), .val (.int p2), .val (.int p3), .val .null] [(.int ((p3 ||| p1) ||| p2))])) _
    refine XS.ifNo X0.here hx rfl (hb hby d14_5) rfl ((if0 _ _).trans (flt hor).1) ?_
    show Steps p.tables e below (s₁.setTop (mkF m 8 #[.val (.int p1), .val (.int p2), .val (.int p3), .val .null] [])) _
    refine XS.iloadN X0.here hx rfl (hb hby d14_8) rfl ?_
    show Steps p.tables e below (s₁.setTop (mkF m 9 #[.val (.int p1), .val (.int p2), .val (.int p3), .val .null] [(.int p2)])) _
    refine XS.iloadN X0.here hx rfl (hb hby d14_9) rfl ?_
    show Steps p.tables e below (s₁.setTop (mkF m 10 #[.val (.int p1), .val (.int p2), .val (.int p3), .val .null] [(.int p3), (.int p2)])) _
    refine XS.iloadN X0.here hx rfl (hb hby d14_10) rfl ?_
    show Steps p.tables e below (s₁.setTop (mkF m 11 #[.val (.int p1), .val (.int p2), .val (.int p3), .val .null] [(.int p1), (.int p3), (.int p2)])) _
    refine XS.isub X0.here hx rfl (hb hby d14_11) rfl ?_
    show Steps p.tables e below (s₁.setTop (mkF m 12 #[.val (.int p1), .val (.int p2), .val (.int p3), .val .null] [(.int (p3 - p1)), (.int p2)])) _
    refine XS.icmpYes X0.here hx rfl (pc0 := 12) (pc' := 23) rfl (hb hby d14_12) rfl (flt hle).2.2.2 (by decide) (by decide) ?_
    show Steps p.tables e below (s₁.setTop (mkF m 23 #[.val (.int p1), .val (.int p2), .val (.int p3), .val .null] [])) _
    refine XS.iloadN X0.here hx rfl (hb hby d14_23) rfl ?_
    show Steps p.tables e below (s₁.setTop (mkF m 24 #[.val (.int p1), .val (.int p2), .val (.int p3), .val .null] [(.int p1)])) _
    exact own_retI X0 hx Bd.returns (hb hby d14_24) hr
  · show Q14 p1 p2 p3 h0 n0 _ s₁.heap _
    rw [e0]
    exact ⟨rfl, N0, rfl⟩
def Q13 (p1 p2 p3 : Int32) (h0 : Heap) (n0 : Nat) (v : Option Value) (h : Heap) (L : List Loc) : Prop := v = some (.int p1) ∧ Fr n0 L ∧ h = h0
theorem d13_0 : decode jdk_31_method_19_code 0 = .ok (.iload_n 0, 1) := by decide +kernel
theorem d13_1 : decode jdk_31_method_19_code 1 = .ok (.iload_n 1, 1) := by decide +kernel
theorem d13_2 : decode jdk_31_method_19_code 2 = .ok (.iload_n 2, 1) := by decide +kernel
theorem d13_3 : decode jdk_31_method_19_code 3 = .ok (.aconst_null, 1) := by decide +kernel
theorem d13_4 : decode jdk_31_method_19_code 4 = .ok (.invokestatic 115, 3) := by decide +kernel
theorem d13_7 : decode jdk_31_method_19_code 7 = .ok (.ireturn, 1) := by decide +kernel
theorem pn_java_util_Objects : plainName "java/util/Objects" = true := by first | (simp [plainName, overriddenIn]; done) | decide +kernel
theorem pd_4 : parseMethodDescriptor "(IIILjava/util/function/BiFunction;)I" = some ⟨[.int, .int, .int, (.object "java/util/function/BiFunction")], some .int⟩ := by decide +kernel
theorem ef_rm13 (m : MethodId) (x0 : Int32) (x1 : Int32) (x2 : Int32) : entryFrame m #[(.int x0), (.int x1), (.int x2)] 3 = mkF m 0 #[.val (.int x0), .val (.int x1), .val (.int x2)] [] := by first | (simp [entryFrame, mkF, argsToLocals, Value.category]; done) | rfl
set_option maxRecDepth 65536 in
set_option maxHeartbeats 40000000 in
theorem rm13 (l : Launch) (Z : State) (a0 : Array Value) (hw : ∀ d ∈ tables_1, d.before a0 Z = true) (ws : List Jvm.Cond) (p1 p2 p3 : Int32) (h0 : Heap) (n0 : Nat) (Z0 : n0 ≤ h0.size) (hor : ¬ ((p3 ||| p1) ||| p2) < 0) (hle : ¬ (p3 - p1) < p2) :
    MetFree l (⟨"java/util/Objects", "checkFromIndexSize", "(III)I"⟩ : MethodName) (head1 (Jvm.Cond.code (⟨"java/util/Objects", "checkFromIndexSize", "(III)I"⟩ : MethodName) jdk_31_method_19_code 3 (some .int) :: ws) ({ frames := 1, cells := 0, slots := 0, locals := 15 } : Room)) (fun a U => a = #[(.int p1), (.int p2), (.int p3)] ∧ Z.Warmed39 U.vm ∧ U.heap = h0) (fun _ _ _ _ _ => True) (fun _ U o U' => ∃ v L, o = .returned v ∧ Q13 p1 p2 p3 h0 n0 v U'.heap L ∧ FrameEnd U o U' L ({ frames := 1, cells := 0, slots := 0, locals := 15 } : Room).cells ({ frames := 1, cells := 0, slots := 0, locals := 15 } : Room).slots) := by
  refine MetFree.of_bodySF (plainFor_of_name pn_java_util_Objects) hisR ?_
  intro p e s m args below meth c s₁ Bd hml0 hP hK
  obtain ⟨rfl, hZ, hh⟩ := hP
  have hx := Bd.exec
  have hby := Bd.bytes
  have hml : c.maxLocals = 3 := hml0
  have hown : s.vm.findClass "java/util/Objects" = some m.cls := findClass_of_methodNamed Bd.named
  have hnm := (name_of_methodNamed Bd.named Bd.method).1
  have X0 : Stand p l e ({ frames := 1, cells := 0, slots := 0, locals := 15 } : Room) s m #[(.int p1), (.int p2), (.int p3)] below meth c s₁ [] 0 0 := Stand.of_body Bd
  have e0 : s₁.heap = h0 := by rw [← hh, Bd.state]; rfl
  have N0 := Fr.nil n0
  have KP0 : Keep h0 h0 [] := Keep.refl h0 _
  obtain ⟨G, hG⟩ : ∃ G : State, G = s₁.setTop (entryFrame m #[(.int p1), (.int p2), (.int p3)] 3) := ⟨_, rfl⟩
  have pre0 : ∀ t, Steps p.tables e below (s₁.setTop (mkF m 0 #[.val (.int p1), .val (.int p2), .val (.int p3)] [])) t → Steps p.tables e below G t := fun t k => hG ▸ castTop (ef_rm13 m p1 p2 p3) k
  have K1 : ∀ t, Steps p.tables e below (s₁.setTop (mkF m 4 #[.val (.int p1), .val (.int p2), .val (.int p3)] [.null, (.int p3), (.int p2), (.int p1)])) t → Steps p.tables e below G t := by
    intro t k
    refine pre0 t ?_
    show Steps p.tables e below (s₁.setTop (mkF m 0 #[.val (.int p1), .val (.int p2), .val (.int p3)] [])) _
    refine XS.iloadN X0.here hx rfl (hb hby d13_0) rfl ?_
    show Steps p.tables e below (s₁.setTop (mkF m 1 #[.val (.int p1), .val (.int p2), .val (.int p3)] [(.int p1)])) _
    refine XS.iloadN X0.here hx rfl (hb hby d13_1) rfl ?_
    show Steps p.tables e below (s₁.setTop (mkF m 2 #[.val (.int p1), .val (.int p2), .val (.int p3)] [(.int p2), (.int p1)])) _
    refine XS.iloadN X0.here hx rfl (hb hby d13_2) rfl ?_
    show Steps p.tables e below (s₁.setTop (mkF m 3 #[.val (.int p1), .val (.int p2), .val (.int p3)] [(.int p3), (.int p2), (.int p1)])) _
    refine XS.aconstNull X0.here hx rfl (hb hby d13_3) ?_
    show Steps p.tables e below (s₁.setTop (mkF m 4 #[.val (.int p1), .val (.int p2), .val (.int p3)] [.null, (.int p3), (.int p2), (.int p1)])) _
    exact k
  obtain ⟨_, _, ⟨T2, L2, kk2, nn2⟩, -, X2, ⟨Lc2, hQ2, lq2, yq2, zq2⟩, st2⟩ := Jvm.LawKit.callS X0 hx (y := (⟨"jdk/internal/util/Preconditions", "checkFromIndexSize", "(IIILjava/util/function/BiFunction;)I"⟩ : MethodName)) hown (mvT hZ (hw _ (List.mem_of_getElem? (i := 64) rfl))) (mvT hZ (hw _ (List.mem_of_getElem? (i := 65) rfl))) (mvT hZ (hw _ (List.mem_of_getElem? (i := 66) rfl))) (mvT hZ (hw _ (List.mem_of_getElem? (i := 67) rfl))) (by decide) (backOf (W := 0) (rm14 l Z a0 hw [] p1 p2 p3 h0 n0 Z0 hor hle) hZ (hw _ (List.mem_of_getElem? (i := 67) rfl)) (hw _ (List.mem_of_getElem? (i := 66) rfl)) (by decide) (by decide)) (g := (mkF m 4 #[.val (.int p1), .val (.int p2), .val (.int p3)] [.null, (.int p3), (.int p2), (.int p1)])) rfl (by rw [hml]; rfl) (argsL := [(.int p1), (.int p2), (.int p3), .null]) (rest := []) (lenOf pd_4 rfl) rfl (by show 2 * 0 + _ ≤ _; exact Nat.le_of_eq rfl) (hb hby d13_4) (fun _ _ => ⟨rfl, e0, (by decide : 0 + 0 ≤ _), (by decide : 0 + 0 ≤ _)⟩)
  dsimp only [Pt.U, Pt.locs, Pt.cells, Pt.slots] at X2 lq2 yq2 zq2 st2 hQ2
  subst lq2 yq2 zq2
  obtain ⟨rfl, Nq2, e2⟩ := hQ2
  have N3 := Fr.app N0 Nq2
  have K4 : ∀ t, Steps p.tables e below (T2.setTop (mkF m 7 #[.val (.int p1), .val (.int p2), .val (.int p3)] [(.int p1)])) t → Steps p.tables e below G t := fun t k => K1 t (st2 _ k)
  obtain ⟨fs, hr, hrun, hended, hW, hsame⟩ := X2.leave (v := some (.int p1)) (fun h => by rw [Bd.returns] at h; cases h)
  have KF := K4
  rw [hG] at KF
  refine ⟨_, _, KF _ ?_, hrun, hended, _, _, rfl, ?_, ⟨_, rfl⟩, hW, hsame.mono (by decide) (by decide)⟩
  · show Steps p.tables e below (T2.setTop (mkF m 7 #[.val (.int p1), .val (.int p2), .val (.int p3)] [(.int p1)])) _
    exact own_retI X2 hx Bd.returns (hb hby d13_7) hr
  · show Q13 p1 p2 p3 h0 n0 _ T2.heap _
    rw [e2]
    exact ⟨rfl, N3, rfl⟩
theorem own_nat1 {i en : Int32} (h0 : 0 ≤ i.toInt) (h : i.toInt < en.toInt) : (i + (1 : Int32)).toInt = i.toInt + 1 ∧ (i + (1 : Int32)).toNatClampNeg = i.toNatClampNeg + 1 := by
  have z1 : (1 : Int32).toInt = 1 := rfl
  have a := c_iadd i 1; have r := rng32 (i + 1); have r2 := rng32 en
  have e : (i + (1 : Int32)).toInt = i.toInt + 1 := by omega
  exact ⟨e, by simp only [Int32.toNatClampNeg, e]; omega⟩
theorem own_inb {i z en : Int32} (h0 : 0 ≤ i.toInt) (h : i.toInt < en.toInt) (hz : en.toInt ≤ z.toInt) : ¬ i < 0 ∧ i < z := by
  have z0 : (0 : Int32).toInt = 0 := rfl
  simp only [Int32.lt_iff_toInt_lt]; omega
theorem own_natlt {i en : Int32} (h0 : 0 ≤ i.toInt) (h : i.toInt < en.toInt) : i.toNatClampNeg < en.toNatClampNeg := by simp only [Int32.toNatClampNeg]; omega
theorem own_sub1 (c p : Int32) : c + (-1 : Int32) - p = c - (1 + p) := by
  apply Int32.toBitVec_inj.mp
  simp only [Int32.toBitVec_sub, Int32.toBitVec_add]
  have e : (-1 : Int32).toBitVec = -(1#32) := rfl
  have e1 : (1 : Int32).toBitVec = 1#32 := rfl
  rw [e, e1]
  simp only [BitVec.sub_eq_add_neg, BitVec.neg_add]
  rw [BitVec.add_assoc]
theorem d15_0 : decode jdk_89_method_35_code 0 = .ok (.iload_n 1, 1) := by decide +kernel
theorem d15_1 : decode jdk_89_method_35_code 1 = .ok (.iload_n 2, 1) := by decide +kernel
theorem d15_2 : decode jdk_89_method_35_code 2 = .ok (.iadd, 1) := by decide +kernel
theorem d15_3 : decode jdk_89_method_35_code 3 = .ok (.istore_n 3, 1) := by decide +kernel
theorem d15_4 : decode jdk_89_method_35_code 4 = .ok (.iload_n 2, 1) := by decide +kernel
theorem d15_5 : decode jdk_89_method_35_code 5 = .ok (.istore 4, 2) := by decide +kernel
theorem d15_7 : decode jdk_89_method_35_code 7 = .ok (.iload_n 1, 1) := by decide +kernel
theorem d15_8 : decode jdk_89_method_35_code 8 = .ok (.istore 5, 2) := by decide +kernel
theorem d15_10 : decode jdk_89_method_35_code 10 = .ok (.iload 5, 2) := by decide +kernel
theorem d15_12 : decode jdk_89_method_35_code 12 = .ok (.iload_n 3, 1) := by decide +kernel
theorem d15_13 : decode jdk_89_method_35_code 13 = .ok (.if_icmp .ge 41, 3) := by decide +kernel
theorem d15_16 : decode jdk_89_method_35_code 16 = .ok (.aload_n 0, 1) := by decide +kernel
theorem d15_17 : decode jdk_89_method_35_code 17 = .ok (.iload 5, 2) := by decide +kernel
theorem d15_19 : decode jdk_89_method_35_code 19 = .ok (.iinc 5 1, 3) := by decide +kernel
theorem d15_22 : decode jdk_89_method_35_code 22 = .ok (.caload, 1) := by decide +kernel
theorem d15_23 : decode jdk_89_method_35_code 23 = .ok (.invokestatic 78, 3) := by decide +kernel
theorem d15_26 : decode jdk_89_method_35_code 26 = .ok (.ifCond .eq (-16), 3) := by decide +kernel
theorem d15_29 : decode jdk_89_method_35_code 29 = .ok (.iload 5, 2) := by decide +kernel
theorem d15_31 : decode jdk_89_method_35_code 31 = .ok (.iload_n 3, 1) := by decide +kernel
theorem d15_32 : decode jdk_89_method_35_code 32 = .ok (.if_icmp .ge (-22), 3) := by decide +kernel
theorem d15_35 : decode jdk_89_method_35_code 35 = .ok (.aload_n 0, 1) := by decide +kernel
theorem d15_36 : decode jdk_89_method_35_code 36 = .ok (.iload 5, 2) := by decide +kernel
theorem d15_38 : decode jdk_89_method_35_code 38 = .ok (.caload, 1) := by decide +kernel
theorem d15_39 : decode jdk_89_method_35_code 39 = .ok (.invokestatic 82, 3) := by decide +kernel
theorem d15_42 : decode jdk_89_method_35_code 42 = .ok (.ifCond .eq (-32), 3) := by decide +kernel
theorem d15_45 : decode jdk_89_method_35_code 45 = .ok (.iinc 4 (-1), 3) := by decide +kernel
theorem d15_48 : decode jdk_89_method_35_code 48 = .ok (.iinc 5 1, 3) := by decide +kernel
theorem d15_51 : decode jdk_89_method_35_code 51 = .ok (.goto (-41), 3) := by decide +kernel
theorem d15_54 : decode jdk_89_method_35_code 54 = .ok (.iload 4, 2) := by decide +kernel
theorem d15_56 : decode jdk_89_method_35_code 56 = .ok (.ireturn, 1) := by decide +kernel
set_option maxRecDepth 65536 in
set_option maxHeartbeats 40000000 in
theorem own_loop (l : Launch) (Z : State) (a0 : Array Value) (hw : ∀ d ∈ tables_1, d.before a0 Z = true) (a1 : Addr) (p1 p2 en : Int32) (k : ClassId) (z : Int32) (vs : List Value) (f : Nat → Int32) (h0 : Heap) (n0 : Nat) (Z0 : n0 ≤ h0.size) (V1 : Arv Z h0 a1 k .char z vs (Value.int (0 : Int32))) (hen : en.toInt ≤ z.toInt) (hf : ∀ j : Nat, j < en.toNatClampNeg → vs.getD j (Value.int (0 : Int32)) = .int (f j))
    {p : Program} {e : Env} {s : State} {m : MethodId} {args : Array Value} {below : List Frame} {meth : Method} {c : Code} (hx : p.tables.exec = Jvm.exec) (hZ : Z.Warmed39 s.vm) (hby : c.code = jdk_89_method_35_code) (hml : c.maxLocals = 6) (hown : s.vm.findClass "java/lang/Character" = some m.cls) :
    ∀ (kk : Nat) (T0 : State) (locs : List Loc) (X0 : Stand p l e ({ frames := 1, cells := 0, slots := 0, locals := 12 } : Room) s m args below meth c T0 locs 0 0) (e0 : T0.heap = h0) (N0 : Fr n0 locs) (i cnt : Int32) (hi0 : 0 ≤ i.toInt) (hik : i.toInt + kk = en.toInt),
      ∃ (T' : State) (locs' : List Loc) (cnt' i' : Int32), Stand p l e ({ frames := 1, cells := 0, slots := 0, locals := 12 } : Room) s m args below meth c T' locs' 0 0 ∧ T'.heap = h0 ∧ Fr n0 locs' ∧ cnt' = cnt - own_pr f kk i.toNatClampNeg ∧ ∀ t, Steps p.tables e below (T'.setTop (mkF m 54 #[.val (.ref a1), .val (.int p1), .val (.int p2), .val (.int en), .val (.int cnt'), .val (.int i')] [])) t → Steps p.tables e below (T0.setTop (mkF m 10 #[.val (.ref a1), .val (.int p1), .val (.int p2), .val (.int en), .val (.int cnt), .val (.int i)] [])) t := by
  intro kk
  induction kk using Nat.strongRecOn with | _ kk ih => ?_
  intro T0 locs X0 e0 N0 i cnt hi0 hik
  have KP0 : Keep h0 h0 [] := Keep.refl h0 _
  have pre0 : ∀ t, Steps p.tables e below (T0.setTop (mkF m 10 #[.val (.ref a1), .val (.int p1), .val (.int p2), .val (.int en), .val (.int cnt), .val (.int i)] [])) t → Steps p.tables e below (T0.setTop (mkF m 10 #[.val (.ref a1), .val (.int p1), .val (.int p2), .val (.int en), .val (.int cnt), .val (.int i)] [])) t := fun t k => k
  have K1 : ∀ t, Steps p.tables e below (T0.setTop (mkF m 13 #[.val (.ref a1), .val (.int p1), .val (.int p2), .val (.int en), .val (.int cnt), .val (.int i)] [(.int en), (.int i)])) t → Steps p.tables e below (T0.setTop (mkF m 10 #[.val (.ref a1), .val (.int p1), .val (.int p2), .val (.int en), .val (.int cnt), .val (.int i)] [])) t := by
    intro t k
    refine pre0 t ?_
    show Steps p.tables e below (T0.setTop (mkF m 10 #[.val (.ref a1), .val (.int p1), .val (.int p2), .val (.int en), .val (.int cnt), .val (.int i)] [])) _
    refine XS.iload X0.here hx rfl (hb hby d15_10) rfl ?_
    show Steps p.tables e below (T0.setTop (mkF m 12 #[.val (.ref a1), .val (.int p1), .val (.int p2), .val (.int en), .val (.int cnt), .val (.int i)] [(.int i)])) _
    refine XS.iloadN X0.here hx rfl (hb hby d15_12) rfl ?_
    show Steps p.tables e below (T0.setTop (mkF m 13 #[.val (.ref a1), .val (.int p1), .val (.int p2), .val (.int en), .val (.int cnt), .val (.int i)] [(.int en), (.int i)])) _
    exact k
  by_cases hc2 : i < en
  · have K3 : ∀ t, Steps p.tables e below (T0.setTop (mkF m 16 #[.val (.ref a1), .val (.int p1), .val (.int p2), .val (.int en), .val (.int cnt), .val (.int i)] [])) t → Steps p.tables e below (T0.setTop (mkF m 10 #[.val (.ref a1), .val (.int p1), .val (.int p2), .val (.int en), .val (.int cnt), .val (.int i)] [])) t := by
      intro t k
      refine K1 t ?_
      show Steps p.tables e below (T0.setTop (mkF m 13 #[.val (.ref a1), .val (.int p1), .val (.int p2), .val (.int en), .val (.int cnt), .val (.int i)] [(.int en), (.int i)])) _
      refine XS.icmpNo X0.here hx rfl (hb hby d15_13) rfl (tlt hc2).2.1 ?_
      show Steps p.tables e below (T0.setTop (mkF m 16 #[.val (.ref a1), .val (.int p1), .val (.int p2), .val (.int en), .val (.int cnt), .val (.int i)] [])) _
      exact k
    have hlt : i.toInt < en.toInt := by rw [← Int32.lt_iff_toInt_lt]; exact hc2
    obtain ⟨k1, rfl⟩ : ∃ k1, kk = k1 + 1 := ⟨kk - 1, by omega⟩
    have hn1 := own_nat1 hi0 hlt
    have K4 : ∀ t, Steps p.tables e below (T0.setTop (mkF m 22 #[.val (.ref a1), .val (.int p1), .val (.int p2), .val (.int en), .val (.int cnt), .val (.int (i + (1 : Int32)))] [(.int i), (.ref a1)])) t → Steps p.tables e below (T0.setTop (mkF m 10 #[.val (.ref a1), .val (.int p1), .val (.int p2), .val (.int en), .val (.int cnt), .val (.int i)] [])) t := by
      intro t k
      refine K3 t ?_
      show Steps p.tables e below (T0.setTop (mkF m 16 #[.val (.ref a1), .val (.int p1), .val (.int p2), .val (.int en), .val (.int cnt), .val (.int i)] [])) _
      refine XS.aloadN X0.here hx rfl (hb hby d15_16) rfl rfl ?_
      show Steps p.tables e below (T0.setTop (mkF m 17 #[.val (.ref a1), .val (.int p1), .val (.int p2), .val (.int en), .val (.int cnt), .val (.int i)] [(.ref a1)])) _
      refine XS.iload X0.here hx rfl (hb hby d15_17) rfl ?_
      show Steps p.tables e below (T0.setTop (mkF m 19 #[.val (.ref a1), .val (.int p1), .val (.int p2), .val (.int en), .val (.int cnt), .val (.int i)] [(.int i), (.ref a1)])) _
      refine XS.iinc X0.here hx rfl (hb hby d15_19) rfl (l' := #[.val (.ref a1), .val (.int p1), .val (.int p2), .val (.int en), .val (.int cnt), .val (.int (i + (1 : Int32)))]) rfl ?_
      show Steps p.tables e below (T0.setTop (mkF m 22 #[.val (.ref a1), .val (.int p1), .val (.int p2), .val (.int en), .val (.int cnt), .val (.int (i + (1 : Int32)))] [(.int i), (.ref a1)])) _
      exact k
    obtain ⟨cl5, Ar5, qc5, S5, M5, Ha5, Ga5⟩ := id V1
    have hin5 : ¬ (i < 0 ∨ cl5.slots.size ≤ (i).toNatClampNeg) := inb_of S5 (own_inb hi0 hlt hen)
    have hat5 : cl5.slots[(i).toNatClampNeg]? = some (.int (f i.toNatClampNeg)) := Ha5.at hin5 (hf _ (own_natlt hi0 hlt))
    have K6 : ∀ t, Steps p.tables e below (T0.setTop (mkF m 23 #[.val (.ref a1), .val (.int p1), .val (.int p2), .val (.int en), .val (.int cnt), .val (.int (i + (1 : Int32)))] [(.int (f i.toNatClampNeg))])) t → Steps p.tables e below (T0.setTop (mkF m 10 #[.val (.ref a1), .val (.int p1), .val (.int p2), .val (.int en), .val (.int cnt), .val (.int i)] [])) t := fun t k => K4 t (X0.caload hx (j := i) (v := (.int (f i.toNatClampNeg))) (by rw [e0]; exact Ar5.1) (State.isArrayOf_alike hZ.alike Ar5.2.1) Ar5.2.2 hin5 hat5 (g := (mkF m 22 #[.val (.ref a1), .val (.int p1), .val (.int p2), .val (.int en), .val (.int cnt), .val (.int (i + (1 : Int32)))] [(.int i), (.ref a1)])) rfl rfl (hb hby d15_22) _ k)
    obtain ⟨_, _, ⟨T7, L7, kk7, nn7⟩, -, X7, ⟨Lc7, hQ7, lq7, yq7, zq7⟩, st7⟩ := Jvm.LawKit.callS X0 hx (y := (⟨"java/lang/Character", "isHighSurrogate", "(C)Z"⟩ : MethodName)) hown (mvT hZ (hw _ (List.mem_of_getElem? (i := 71) rfl))) (mvT hZ (hw _ (List.mem_of_getElem? (i := 72) rfl))) (mvT hZ (hw _ (List.mem_of_getElem? (i := 58) rfl))) (mvT hZ (hw _ (List.mem_of_getElem? (i := 73) rfl))) (by decide) (backOf (W := 0) (rm16 l Z a0 hw [] (f i.toNatClampNeg) h0 n0 Z0 ) hZ (hw _ (List.mem_of_getElem? (i := 73) rfl)) (hw _ (List.mem_of_getElem? (i := 58) rfl)) (by decide) (by decide)) (g := (mkF m 23 #[.val (.ref a1), .val (.int p1), .val (.int p2), .val (.int en), .val (.int cnt), .val (.int (i + (1 : Int32)))] [(.int (f i.toNatClampNeg))])) rfl (by rw [hml]; rfl) (argsL := [(.int (f i.toNatClampNeg))]) (rest := []) (lenOf pd_3 rfl) rfl (by show 2 * 0 + _ ≤ _; exact Nat.le_of_eq rfl) (hb hby d15_23) (fun _ _ => ⟨rfl, e0, (by decide : 0 + 0 ≤ _), (by decide : 0 + 0 ≤ _)⟩)
    dsimp only [Pt.U, Pt.locs, Pt.cells, Pt.slots] at X7 lq7 yq7 zq7 st7 hQ7
    subst lq7 yq7 zq7
    obtain ⟨rfl, Nq7, e7⟩ := hQ7
    have N8 := Fr.app N0 Nq7
    have K9 : ∀ t, Steps p.tables e below (T7.setTop (mkF m 26 #[.val (.ref a1), .val (.int p1), .val (.int p2), .val (.int en), .val (.int cnt), .val (.int (i + (1 : Int32)))] [(.int (own_hi (f i.toNatClampNeg)))])) t → Steps p.tables e below (T0.setTop (mkF m 10 #[.val (.ref a1), .val (.int p1), .val (.int p2), .val (.int en), .val (.int cnt), .val (.int i)] [])) t := fun t k => K6 t (st7 _ k)
    by_cases hc10 : (own_hi (f i.toNatClampNeg)) = (0 : Int32)
    · have K11 : ∀ t, Steps p.tables e below (T7.setTop (mkF m 10 #[.val (.ref a1), .val (.int p1), .val (.int p2), .val (.int en), .val (.int cnt), .val (.int (i + (1 : Int32)))] [])) t → Steps p.tables e below (T0.setTop (mkF m 10 #[.val (.ref a1), .val (.int p1), .val (.int p2), .val (.int en), .val (.int cnt), .val (.int i)] [])) t := by
        intro t k
        refine K9 t ?_
        show Steps p.tables e below (T7.setTop (mkF m 26 #[.val (.ref a1), .val (.int p1), .val (.int p2), .val (.int en), .val (.int cnt), .val (.int (i + (1 : Int32)))] [(.int (own_hi (f i.toNatClampNeg)))])) _
        refine XS.ifYes X7.here hx rfl (pc0 := 26) (pc' := 10) rfl (hb hby d15_26) rfl ((if0 _ _).trans (teq hc10).1) (by decide) (by decide) ?_
        show Steps p.tables e below (T7.setTop (mkF m 10 #[.val (.ref a1), .val (.int p1), .val (.int p2), .val (.int en), .val (.int cnt), .val (.int (i + (1 : Int32)))] [])) _
        exact k
      obtain ⟨T', L', c', i', X', e', N', hc', st'⟩ := ih k1 (by omega) _ _ X7 e7 N8 (i + (1 : Int32)) cnt (by rw [hn1.1]; omega) (by rw [hn1.1]; omega)
      refine ⟨T', L', c', i', X', e', N', ?_, fun t q => K11 t (st' t q)⟩
      rw [hc', hn1.2, own_prA f k1 _ hc10]
    · have K12 : ∀ t, Steps p.tables e below (T7.setTop (mkF m 32 #[.val (.ref a1), .val (.int p1), .val (.int p2), .val (.int en), .val (.int cnt), .val (.int (i + (1 : Int32)))] [(.int en), (.int (i + (1 : Int32)))])) t → Steps p.tables e below (T0.setTop (mkF m 10 #[.val (.ref a1), .val (.int p1), .val (.int p2), .val (.int en), .val (.int cnt), .val (.int i)] [])) t := by
        intro t k
        refine K9 t ?_
        show Steps p.tables e below (T7.setTop (mkF m 26 #[.val (.ref a1), .val (.int p1), .val (.int p2), .val (.int en), .val (.int cnt), .val (.int (i + (1 : Int32)))] [(.int (own_hi (f i.toNatClampNeg)))])) _
        refine XS.ifNo X7.here hx rfl (hb hby d15_26) rfl ((if0 _ _).trans (feq hc10).1) ?_
        show Steps p.tables e below (T7.setTop (mkF m 29 #[.val (.ref a1), .val (.int p1), .val (.int p2), .val (.int en), .val (.int cnt), .val (.int (i + (1 : Int32)))] [])) _
        refine XS.iload X7.here hx rfl (hb hby d15_29) rfl ?_
        show Steps p.tables e below (T7.setTop (mkF m 31 #[.val (.ref a1), .val (.int p1), .val (.int p2), .val (.int en), .val (.int cnt), .val (.int (i + (1 : Int32)))] [(.int (i + (1 : Int32)))])) _
        refine XS.iloadN X7.here hx rfl (hb hby d15_31) rfl ?_
        show Steps p.tables e below (T7.setTop (mkF m 32 #[.val (.ref a1), .val (.int p1), .val (.int p2), .val (.int en), .val (.int cnt), .val (.int (i + (1 : Int32)))] [(.int en), (.int (i + (1 : Int32)))])) _
        exact k
      by_cases hc13 : (i + (1 : Int32)) < en
      · have K14 : ∀ t, Steps p.tables e below (T7.setTop (mkF m 35 #[.val (.ref a1), .val (.int p1), .val (.int p2), .val (.int en), .val (.int cnt), .val (.int (i + (1 : Int32)))] [])) t → Steps p.tables e below (T0.setTop (mkF m 10 #[.val (.ref a1), .val (.int p1), .val (.int p2), .val (.int en), .val (.int cnt), .val (.int i)] [])) t := by
          intro t k
          refine K12 t ?_
          show Steps p.tables e below (T7.setTop (mkF m 32 #[.val (.ref a1), .val (.int p1), .val (.int p2), .val (.int en), .val (.int cnt), .val (.int (i + (1 : Int32)))] [(.int en), (.int (i + (1 : Int32)))])) _
          refine XS.icmpNo X7.here hx rfl (hb hby d15_32) rfl (tlt hc13).2.1 ?_
          show Steps p.tables e below (T7.setTop (mkF m 35 #[.val (.ref a1), .val (.int p1), .val (.int p2), .val (.int en), .val (.int cnt), .val (.int (i + (1 : Int32)))] [])) _
          exact k
        have hlt1 : (i + (1 : Int32)).toInt < en.toInt := by rw [← Int32.lt_iff_toInt_lt]; exact hc13
        have hi1 : 0 ≤ (i + (1 : Int32)).toInt := by rw [hn1.1]; omega
        have K15 : ∀ t, Steps p.tables e below (T7.setTop (mkF m 38 #[.val (.ref a1), .val (.int p1), .val (.int p2), .val (.int en), .val (.int cnt), .val (.int (i + (1 : Int32)))] [(.int (i + (1 : Int32))), (.ref a1)])) t → Steps p.tables e below (T0.setTop (mkF m 10 #[.val (.ref a1), .val (.int p1), .val (.int p2), .val (.int en), .val (.int cnt), .val (.int i)] [])) t := by
          intro t k
          refine K14 t ?_
          show Steps p.tables e below (T7.setTop (mkF m 35 #[.val (.ref a1), .val (.int p1), .val (.int p2), .val (.int en), .val (.int cnt), .val (.int (i + (1 : Int32)))] [])) _
          refine XS.aloadN X7.here hx rfl (hb hby d15_35) rfl rfl ?_
          show Steps p.tables e below (T7.setTop (mkF m 36 #[.val (.ref a1), .val (.int p1), .val (.int p2), .val (.int en), .val (.int cnt), .val (.int (i + (1 : Int32)))] [(.ref a1)])) _
          refine XS.iload X7.here hx rfl (hb hby d15_36) rfl ?_
          show Steps p.tables e below (T7.setTop (mkF m 38 #[.val (.ref a1), .val (.int p1), .val (.int p2), .val (.int en), .val (.int cnt), .val (.int (i + (1 : Int32)))] [(.int (i + (1 : Int32))), (.ref a1)])) _
          exact k
        obtain ⟨cl16, Ar16, qc16, S16, M16, Ha16, Ga16⟩ := id V1
        have hin16 : ¬ ((i + (1 : Int32)) < 0 ∨ cl16.slots.size ≤ ((i + (1 : Int32))).toNatClampNeg) := inb_of S16 (own_inb hi1 hlt1 hen)
        have hat16 : cl16.slots[((i + (1 : Int32))).toNatClampNeg]? = some (.int (f (i + (1 : Int32)).toNatClampNeg)) := Ha16.at hin16 (hf _ (own_natlt hi1 hlt1))
        have K17 : ∀ t, Steps p.tables e below (T7.setTop (mkF m 39 #[.val (.ref a1), .val (.int p1), .val (.int p2), .val (.int en), .val (.int cnt), .val (.int (i + (1 : Int32)))] [(.int (f (i + (1 : Int32)).toNatClampNeg))])) t → Steps p.tables e below (T0.setTop (mkF m 10 #[.val (.ref a1), .val (.int p1), .val (.int p2), .val (.int en), .val (.int cnt), .val (.int i)] [])) t := fun t k => K15 t (X7.caload hx (j := (i + (1 : Int32))) (v := (.int (f (i + (1 : Int32)).toNatClampNeg))) (by rw [e7]; exact Ar16.1) (State.isArrayOf_alike hZ.alike Ar16.2.1) Ar16.2.2 hin16 hat16 (g := (mkF m 38 #[.val (.ref a1), .val (.int p1), .val (.int p2), .val (.int en), .val (.int cnt), .val (.int (i + (1 : Int32)))] [(.int (i + (1 : Int32))), (.ref a1)])) rfl rfl (hb hby d15_38) _ k)
        obtain ⟨_, _, ⟨T18, L18, kk18, nn18⟩, -, X18, ⟨Lc18, hQ18, lq18, yq18, zq18⟩, st18⟩ := Jvm.LawKit.callS X7 hx (y := (⟨"java/lang/Character", "isLowSurrogate", "(C)Z"⟩ : MethodName)) hown (mvT hZ (hw _ (List.mem_of_getElem? (i := 82) rfl))) (mvT hZ (hw _ (List.mem_of_getElem? (i := 83) rfl))) (mvT hZ (hw _ (List.mem_of_getElem? (i := 58) rfl))) (mvT hZ (hw _ (List.mem_of_getElem? (i := 84) rfl))) (by decide) (backOf (W := 0) (rm18 l Z a0 hw [] (f (i + (1 : Int32)).toNatClampNeg) h0 n0 Z0 ) hZ (hw _ (List.mem_of_getElem? (i := 84) rfl)) (hw _ (List.mem_of_getElem? (i := 58) rfl)) (by decide) (by decide)) (g := (mkF m 39 #[.val (.ref a1), .val (.int p1), .val (.int p2), .val (.int en), .val (.int cnt), .val (.int (i + (1 : Int32)))] [(.int (f (i + (1 : Int32)).toNatClampNeg))])) rfl (by rw [hml]; rfl) (argsL := [(.int (f (i + (1 : Int32)).toNatClampNeg))]) (rest := []) (lenOf pd_3 rfl) rfl (by show 2 * 0 + _ ≤ _; exact Nat.le_of_eq rfl) (hb hby d15_39) (fun _ _ => ⟨rfl, e7, (by decide : 0 + 0 ≤ _), (by decide : 0 + 0 ≤ _)⟩)
        dsimp only [Pt.U, Pt.locs, Pt.cells, Pt.slots] at X18 lq18 yq18 zq18 st18 hQ18
        subst lq18 yq18 zq18
        obtain ⟨rfl, Nq18, e18⟩ := hQ18
        have N19 := Fr.app N8 Nq18
        have K20 : ∀ t, Steps p.tables e below (T18.setTop (mkF m 42 #[.val (.ref a1), .val (.int p1), .val (.int p2), .val (.int en), .val (.int cnt), .val (.int (i + (1 : Int32)))] [(.int (own_lo (f (i + (1 : Int32)).toNatClampNeg)))])) t → Steps p.tables e below (T0.setTop (mkF m 10 #[.val (.ref a1), .val (.int p1), .val (.int p2), .val (.int en), .val (.int cnt), .val (.int i)] [])) t := fun t k => K17 t (st18 _ k)
        by_cases hc21 : (own_lo (f (i + (1 : Int32)).toNatClampNeg)) = (0 : Int32)
        · have K22 : ∀ t, Steps p.tables e below (T18.setTop (mkF m 10 #[.val (.ref a1), .val (.int p1), .val (.int p2), .val (.int en), .val (.int cnt), .val (.int (i + (1 : Int32)))] [])) t → Steps p.tables e below (T0.setTop (mkF m 10 #[.val (.ref a1), .val (.int p1), .val (.int p2), .val (.int en), .val (.int cnt), .val (.int i)] [])) t := by
            intro t k
            refine K20 t ?_
            show Steps p.tables e below (T18.setTop (mkF m 42 #[.val (.ref a1), .val (.int p1), .val (.int p2), .val (.int en), .val (.int cnt), .val (.int (i + (1 : Int32)))] [(.int (own_lo (f (i + (1 : Int32)).toNatClampNeg)))])) _
            refine XS.ifYes X18.here hx rfl (pc0 := 42) (pc' := 10) rfl (hb hby d15_42) rfl ((if0 _ _).trans (teq hc21).1) (by decide) (by decide) ?_
            show Steps p.tables e below (T18.setTop (mkF m 10 #[.val (.ref a1), .val (.int p1), .val (.int p2), .val (.int en), .val (.int cnt), .val (.int (i + (1 : Int32)))] [])) _
            exact k
          obtain ⟨T', L', c', i', X', e', N', hc', st'⟩ := ih k1 (by omega) _ _ X18 e18 N19 (i + (1 : Int32)) cnt (by rw [hn1.1]; omega) (by rw [hn1.1]; omega)
          refine ⟨T', L', c', i', X', e', N', ?_, fun t q => K22 t (st' t q)⟩
          rw [hc', hn1.2, own_prC f k1 _ (by rw [← hn1.2]; exact hc21)]
        · have K23 : ∀ t, Steps p.tables e below (T18.setTop (mkF m 45 #[.val (.ref a1), .val (.int p1), .val (.int p2), .val (.int en), .val (.int cnt), .val (.int (i + (1 : Int32)))] [])) t → Steps p.tables e below (T0.setTop (mkF m 10 #[.val (.ref a1), .val (.int p1), .val (.int p2), .val (.int en), .val (.int cnt), .val (.int i)] [])) t := by
            intro t k
            refine K20 t ?_
            show Steps p.tables e below (T18.setTop (mkF m 42 #[.val (.ref a1), .val (.int p1), .val (.int p2), .val (.int en), .val (.int cnt), .val (.int (i + (1 : Int32)))] [(.int (own_lo (f (i + (1 : Int32)).toNatClampNeg)))])) _
            refine XS.ifNo X18.here hx rfl (hb hby d15_42) rfl ((if0 _ _).trans (feq hc21).1) ?_
            show Steps p.tables e below (T18.setTop (mkF m 45 #[.val (.ref a1), .val (.int p1), .val (.int p2), .val (.int en), .val (.int cnt), .val (.int (i + (1 : Int32)))] [])) _
            exact k
          obtain ⟨k2, rfl⟩ : ∃ k2, k1 = k2 + 1 := ⟨k1 - 1, by rw [hn1.1] at hlt1; omega⟩
          have hn2 := own_nat1 hi1 hlt1
          have K24 : ∀ t, Steps p.tables e below (T18.setTop (mkF m 10 #[.val (.ref a1), .val (.int p1), .val (.int p2), .val (.int en), .val (.int (cnt + (-1 : Int32))), .val (.int ((i + (1 : Int32)) + (1 : Int32)))] [])) t → Steps p.tables e below (T0.setTop (mkF m 10 #[.val (.ref a1), .val (.int p1), .val (.int p2), .val (.int en), .val (.int cnt), .val (.int i)] [])) t := by
            intro t k
            refine K23 t ?_
            show Steps p.tables e below (T18.setTop (mkF m 45 #[.val (.ref a1), .val (.int p1), .val (.int p2), .val (.int en), .val (.int cnt), .val (.int (i + (1 : Int32)))] [])) _
            refine XS.iinc X18.here hx rfl (hb hby d15_45) rfl (l' := #[.val (.ref a1), .val (.int p1), .val (.int p2), .val (.int en), .val (.int (cnt + (-1 : Int32))), .val (.int (i + (1 : Int32)))]) rfl ?_
            show Steps p.tables e below (T18.setTop (mkF m 48 #[.val (.ref a1), .val (.int p1), .val (.int p2), .val (.int en), .val (.int (cnt + (-1 : Int32))), .val (.int (i + (1 : Int32)))] [])) _
            refine XS.iinc X18.here hx rfl (hb hby d15_48) rfl (l' := #[.val (.ref a1), .val (.int p1), .val (.int p2), .val (.int en), .val (.int (cnt + (-1 : Int32))), .val (.int ((i + (1 : Int32)) + (1 : Int32)))]) rfl ?_
            show Steps p.tables e below (T18.setTop (mkF m 51 #[.val (.ref a1), .val (.int p1), .val (.int p2), .val (.int en), .val (.int (cnt + (-1 : Int32))), .val (.int ((i + (1 : Int32)) + (1 : Int32)))] [])) _
            refine XS.goto X18.here hx rfl (pc0 := 51) (pc' := 10) rfl (hb hby d15_51) (by decide) (by decide) ?_
            show Steps p.tables e below (T18.setTop (mkF m 10 #[.val (.ref a1), .val (.int p1), .val (.int p2), .val (.int en), .val (.int (cnt + (-1 : Int32))), .val (.int ((i + (1 : Int32)) + (1 : Int32)))] [])) _
            exact k
          obtain ⟨T', L', c', i', X', e', N', hc', st'⟩ := ih k2 (by omega) _ _ X18 e18 N19 ((i + (1 : Int32)) + (1 : Int32)) (cnt + (-1 : Int32)) (by rw [hn2.1]; omega) (by rw [hn2.1]; omega)
          refine ⟨T', L', c', i', X', e', N', ?_, fun t q => K24 t (st' t q)⟩
          rw [hc', own_sub1, hn2.2, hn1.2, own_prD f k2 _ hc10 (by rw [← hn1.2]; exact hc21)]
      · have K25 : ∀ t, Steps p.tables e below (T7.setTop (mkF m 10 #[.val (.ref a1), .val (.int p1), .val (.int p2), .val (.int en), .val (.int cnt), .val (.int (i + (1 : Int32)))] [])) t → Steps p.tables e below (T0.setTop (mkF m 10 #[.val (.ref a1), .val (.int p1), .val (.int p2), .val (.int en), .val (.int cnt), .val (.int i)] [])) t := by
          intro t k
          refine K12 t ?_
          show Steps p.tables e below (T7.setTop (mkF m 32 #[.val (.ref a1), .val (.int p1), .val (.int p2), .val (.int en), .val (.int cnt), .val (.int (i + (1 : Int32)))] [(.int en), (.int (i + (1 : Int32)))])) _
          refine XS.icmpYes X7.here hx rfl (pc0 := 32) (pc' := 10) rfl (hb hby d15_32) rfl (flt hc13).2.1 (by decide) (by decide) ?_
          show Steps p.tables e below (T7.setTop (mkF m 10 #[.val (.ref a1), .val (.int p1), .val (.int p2), .val (.int en), .val (.int cnt), .val (.int (i + (1 : Int32)))] [])) _
          exact k
        obtain ⟨T', L', c', i', X', e', N', hc', st'⟩ := ih k1 (by omega) _ _ X7 e7 N8 (i + (1 : Int32)) cnt (by rw [hn1.1]; omega) (by rw [hn1.1]; omega)
        refine ⟨T', L', c', i', X', e', N', ?_, fun t q => K25 t (st' t q)⟩
        rw [hc', hn1.2, (show own_pr f (k1 + 1) i.toNatClampNeg = own_pr f k1 (i.toNatClampNeg + 1) by obtain rfl : k1 = 0 := (by have q := hc13; rw [Int32.lt_iff_toInt_lt, hn1.1] at q; omega); rfl)]
  · have K26 : ∀ t, Steps p.tables e below (T0.setTop (mkF m 54 #[.val (.ref a1), .val (.int p1), .val (.int p2), .val (.int en), .val (.int cnt), .val (.int i)] [])) t → Steps p.tables e below (T0.setTop (mkF m 10 #[.val (.ref a1), .val (.int p1), .val (.int p2), .val (.int en), .val (.int cnt), .val (.int i)] [])) t := by
      intro t k
      refine K1 t ?_
      show Steps p.tables e below (T0.setTop (mkF m 13 #[.val (.ref a1), .val (.int p1), .val (.int p2), .val (.int en), .val (.int cnt), .val (.int i)] [(.int en), (.int i)])) _
      refine XS.icmpYes X0.here hx rfl (pc0 := 13) (pc' := 54) rfl (hb hby d15_13) rfl (flt hc2).2.1 (by decide) (by decide) ?_
      show Steps p.tables e below (T0.setTop (mkF m 54 #[.val (.ref a1), .val (.int p1), .val (.int p2), .val (.int en), .val (.int cnt), .val (.int i)] [])) _
      exact k
    refine ⟨_, _, _, _, X0, e0, N0, ?_, K26⟩
    obtain rfl : kk = 0 := by have q := hc2; rw [Int32.lt_iff_toInt_lt] at q; omega
    show cnt = cnt - 0; rw [Int32.sub_zero]
theorem own_bnd {p q z : Int32} (h : 0 ≤ p.toInt ∧ 0 ≤ q.toInt ∧ p.toInt + q.toInt ≤ z.toInt) : 0 ≤ p.toInt ∧ (p + q).toInt ≤ z.toInt ∧ p.toInt + q.toNatClampNeg = (p + q).toInt := by
  have a := c_iadd p q; have r := rng32 (p + q); have r2 := rng32 z
  simp only [Int32.toNatClampNeg]; omega
def Q15 (a1 : Addr) (p1 p2 : Int32) (k : ClassId) (z : Int32) (vs : List Value) (f : Nat → Int32) (h0 : Heap) (n0 : Nat) (v : Option Value) (h : Heap) (L : List Loc) : Prop := v = some (.int (p2 - own_pr f p2.toNatClampNeg p1.toNatClampNeg)) ∧ Fr n0 L ∧ h = h0
theorem ef_rm15 (m : MethodId) (x0 : Addr) (x1 : Int32) (x2 : Int32) : entryFrame m #[(.ref x0), (.int x1), (.int x2)] 6 = mkF m 0 #[.val (.ref x0), .val (.int x1), .val (.int x2), .unset, .unset, .unset] [] := by first | (simp [entryFrame, mkF, argsToLocals, Value.category]; done) | rfl
set_option maxRecDepth 65536 in
set_option maxHeartbeats 40000000 in
theorem rm15 (l : Launch) (Z : State) (a0 : Array Value) (hw : ∀ d ∈ tables_1, d.before a0 Z = true) (ws : List Jvm.Cond) (a1 : Addr) (p1 p2 : Int32) (k : ClassId) (z : Int32) (vs : List Value) (f : Nat → Int32) (h0 : Heap) (n0 : Nat) (Z0 : n0 ≤ h0.size) (V1 : Arv Z h0 a1 k .char z vs (Value.int (0 : Int32))) (hp : 0 ≤ p1.toInt ∧ 0 ≤ p2.toInt ∧ p1.toInt + p2.toInt ≤ z.toInt) (hf : ∀ j : Nat, j < (p1 + p2).toNatClampNeg → vs.getD j (Value.int (0 : Int32)) = .int (f j)) :
    MetFree l (⟨"java/lang/Character", "codePointCountImpl", "([CII)I"⟩ : MethodName) (head1 (Jvm.Cond.code (⟨"java/lang/Character", "codePointCountImpl", "([CII)I"⟩ : MethodName) jdk_89_method_35_code 6 (some .int) :: ws) ({ frames := 1, cells := 0, slots := 0, locals := 12 } : Room)) (fun a U => a = #[(.ref a1), (.int p1), (.int p2)] ∧ Z.Warmed39 U.vm ∧ U.heap = h0) (fun _ _ _ _ _ => True) (fun _ U o U' => ∃ v L, o = .returned v ∧ Q15 a1 p1 p2 k z vs f h0 n0 v U'.heap L ∧ FrameEnd U o U' L ({ frames := 1, cells := 0, slots := 0, locals := 12 } : Room).cells ({ frames := 1, cells := 0, slots := 0, locals := 12 } : Room).slots) := by
  refine MetFree.of_bodySF (plainFor_of_name pn_java_lang_Character) hisR ?_
  intro p e s m args below meth c s₁ Bd hml0 hP hK
  obtain ⟨rfl, hZ, hh⟩ := hP
  have hx := Bd.exec
  have hby := Bd.bytes
  have hml : c.maxLocals = 6 := hml0
  have hown : s.vm.findClass "java/lang/Character" = some m.cls := findClass_of_methodNamed Bd.named
  have hnm := (name_of_methodNamed Bd.named Bd.method).1
  have X0 : Stand p l e ({ frames := 1, cells := 0, slots := 0, locals := 12 } : Room) s m #[(.ref a1), (.int p1), (.int p2)] below meth c s₁ [] 0 0 := Stand.of_body Bd
  have e0 : s₁.heap = h0 := by rw [← hh, Bd.state]; rfl
  have N0 := Fr.nil n0
  have KP0 : Keep h0 h0 [] := Keep.refl h0 _
  obtain ⟨G, hG⟩ : ∃ G : State, G = s₁.setTop (entryFrame m #[(.ref a1), (.int p1), (.int p2)] 6) := ⟨_, rfl⟩
  have pre0 : ∀ t, Steps p.tables e below (s₁.setTop (mkF m 0 #[.val (.ref a1), .val (.int p1), .val (.int p2), .unset, .unset, .unset] [])) t → Steps p.tables e below G t := fun t k => hG ▸ castTop (ef_rm15 m a1 p1 p2) k
  have K1 : ∀ t, Steps p.tables e below (s₁.setTop (mkF m 10 #[.val (.ref a1), .val (.int p1), .val (.int p2), .val (.int (p1 + p2)), .val (.int p2), .val (.int p1)] [])) t → Steps p.tables e below G t := by
    intro t k
    refine pre0 t ?_
    show Steps p.tables e below (s₁.setTop (mkF m 0 #[.val (.ref a1), .val (.int p1), .val (.int p2), .unset, .unset, .unset] [])) _
    refine XS.iloadN X0.here hx rfl (hb hby d15_0) rfl ?_
    show Steps p.tables e below (s₁.setTop (mkF m 1 #[.val (.ref a1), .val (.int p1), .val (.int p2), .unset, .unset, .unset] [(.int p1)])) _
    refine XS.iloadN X0.here hx rfl (hb hby d15_1) rfl ?_
    show Steps p.tables e below (s₁.setTop (mkF m 2 #[.val (.ref a1), .val (.int p1), .val (.int p2), .unset, .unset, .unset] [(.int p2), (.int p1)])) _
    refine XS.iadd X0.here hx rfl (hb hby d15_2) rfl ?_
    show Steps p.tables e below (s₁.setTop (mkF m 3 #[.val (.ref a1), .val (.int p1), .val (.int p2), .unset, .unset, .unset] [(.int (p1 + p2))])) _
    refine XS.istoreN X0.here hx rfl (hb hby d15_3) rfl (l' := #[.val (.ref a1), .val (.int p1), .val (.int p2), .val (.int (p1 + p2)), .unset, .unset]) rfl ?_
    show Steps p.tables e below (s₁.setTop (mkF m 4 #[.val (.ref a1), .val (.int p1), .val (.int p2), .val (.int (p1 + p2)), .unset, .unset] [])) _
    refine XS.iloadN X0.here hx rfl (hb hby d15_4) rfl ?_
    show Steps p.tables e below (s₁.setTop (mkF m 5 #[.val (.ref a1), .val (.int p1), .val (.int p2), .val (.int (p1 + p2)), .unset, .unset] [(.int p2)])) _
    refine XS.istore X0.here hx rfl (hb hby d15_5) rfl (l' := #[.val (.ref a1), .val (.int p1), .val (.int p2), .val (.int (p1 + p2)), .val (.int p2), .unset]) rfl ?_
    show Steps p.tables e below (s₁.setTop (mkF m 7 #[.val (.ref a1), .val (.int p1), .val (.int p2), .val (.int (p1 + p2)), .val (.int p2), .unset] [])) _
    refine XS.iloadN X0.here hx rfl (hb hby d15_7) rfl ?_
    show Steps p.tables e below (s₁.setTop (mkF m 8 #[.val (.ref a1), .val (.int p1), .val (.int p2), .val (.int (p1 + p2)), .val (.int p2), .unset] [(.int p1)])) _
    refine XS.istore X0.here hx rfl (hb hby d15_8) rfl (l' := #[.val (.ref a1), .val (.int p1), .val (.int p2), .val (.int (p1 + p2)), .val (.int p2), .val (.int p1)]) rfl ?_
    show Steps p.tables e below (s₁.setTop (mkF m 10 #[.val (.ref a1), .val (.int p1), .val (.int p2), .val (.int (p1 + p2)), .val (.int p2), .val (.int p1)] [])) _
    exact k
  have hbd := own_bnd hp
  obtain ⟨T9, L9, c9, i9, X9, e9, N9, hc9, st9⟩ := own_loop l Z a0 hw a1 p1 p2 (p1 + p2) k z vs f h0 n0 Z0 V1 hbd.2.1 hf hx hZ hby hml hown p2.toNatClampNeg _ _ X0 e0 N0 p1 p2 hbd.1 hbd.2.2
  have K2 : ∀ t, Steps p.tables e below (T9.setTop (mkF m 54 #[.val (.ref a1), .val (.int p1), .val (.int p2), .val (.int (p1 + p2)), .val (.int c9), .val (.int i9)] [])) t → Steps p.tables e below G t := fun t k => K1 t (st9 t k)
  obtain ⟨fs, hr, hrun, hended, hW, hsame⟩ := X9.leave (v := some (.int c9)) (fun h => by rw [Bd.returns] at h; cases h)
  have KF := K2
  rw [hG] at KF
  refine ⟨_, _, KF _ ?_, hrun, hended, _, _, rfl, ?_, ⟨_, rfl⟩, hW, hsame.mono (by decide) (by decide)⟩
  · show Steps p.tables e below (T9.setTop (mkF m 54 #[.val (.ref a1), .val (.int p1), .val (.int p2), .val (.int (p1 + p2)), .val (.int c9), .val (.int i9)] [])) _
    refine XS.iload X9.here hx rfl (hb hby d15_54) rfl ?_
    show Steps p.tables e below (T9.setTop (mkF m 56 #[.val (.ref a1), .val (.int p1), .val (.int p2), .val (.int (p1 + p2)), .val (.int c9), .val (.int i9)] [(.int c9)])) _
    exact own_retI X9 hx Bd.returns (hb hby d15_56) hr
  · show Q15 a1 p1 p2 k z vs f h0 n0 _ T9.heap _
    rw [e9]
    exact ⟨by rw [hc9], N9, rfl⟩
theorem own_chk {p q z : Int32} (h : 0 ≤ p.toInt ∧ 0 ≤ q.toInt ∧ p.toInt + q.toInt ≤ z.toInt) : ¬ ((z ||| p) ||| q) < 0 ∧ ¬ (z - p) < q := by
  have z0 : (0 : Int32).toInt = 0 := rfl
  have a := (c_orS z p).1 (by omega) (by omega); have b := (c_orS (z ||| p) q).1 a (by omega)
  have c := c_isub z p; have r := rng32 (z - p); have r2 := rng32 z
  simp only [Int32.lt_iff_toInt_lt]; omega
def Q12 (a1 : Addr) (p1 p2 : Int32) (k : ClassId) (z : Int32) (vs : List Value) (f : Nat → Int32) (h0 : Heap) (n0 : Nat) (v : Option Value) (h : Heap) (L : List Loc) : Prop := v = some (.int (p2 - own_pr f p2.toNatClampNeg p1.toNatClampNeg)) ∧ Fr n0 L ∧ h = h0
theorem d12_0 : decode jdk_89_method_34_code 0 = .ok (.iload_n 1, 1) := by decide +kernel
theorem d12_1 : decode jdk_89_method_34_code 1 = .ok (.iload_n 2, 1) := by decide +kernel
theorem d12_2 : decode jdk_89_method_34_code 2 = .ok (.aload_n 0, 1) := by decide +kernel
theorem d12_3 : decode jdk_89_method_34_code 3 = .ok (.arraylength, 1) := by decide +kernel
theorem d12_4 : decode jdk_89_method_34_code 4 = .ok (.invokestatic 145, 3) := by decide +kernel
theorem d12_7 : decode jdk_89_method_34_code 7 = .ok (.pop, 1) := by decide +kernel
theorem d12_8 : decode jdk_89_method_34_code 8 = .ok (.aload_n 0, 1) := by decide +kernel
theorem d12_9 : decode jdk_89_method_34_code 9 = .ok (.iload_n 1, 1) := by decide +kernel
theorem d12_10 : decode jdk_89_method_34_code 10 = .ok (.iload_n 2, 1) := by decide +kernel
theorem d12_11 : decode jdk_89_method_34_code 11 = .ok (.invokestatic 148, 3) := by decide +kernel
theorem d12_14 : decode jdk_89_method_34_code 14 = .ok (.ireturn, 1) := by decide +kernel
theorem pd_5 : parseMethodDescriptor "(III)I" = some ⟨[.int, .int, .int], some .int⟩ := by decide +kernel
theorem pd_6 : parseMethodDescriptor "([CII)I" = some ⟨[(.array .char), .int, .int], some .int⟩ := by decide +kernel
theorem ef_rm12 (m : MethodId) (x0 : Addr) (x1 : Int32) (x2 : Int32) : entryFrame m #[(.ref x0), (.int x1), (.int x2)] 3 = mkF m 0 #[.val (.ref x0), .val (.int x1), .val (.int x2)] [] := by first | (simp [entryFrame, mkF, argsToLocals, Value.category]; done) | rfl
set_option maxRecDepth 65536 in
set_option maxHeartbeats 40000000 in
theorem rm12 (l : Launch) (Z : State) (a0 : Array Value) (hw : ∀ d ∈ tables_1, d.before a0 Z = true) (ws : List Jvm.Cond) (a1 : Addr) (p1 p2 : Int32) (k : ClassId) (z : Int32) (vs : List Value) (f : Nat → Int32) (h0 : Heap) (n0 : Nat) (Z0 : n0 ≤ h0.size) (V1 : Arv Z h0 a1 k .char z vs (Value.int (0 : Int32))) (hp : 0 ≤ p1.toInt ∧ 0 ≤ p2.toInt ∧ p1.toInt + p2.toInt ≤ z.toInt) (hf : ∀ j : Nat, j < (p1 + p2).toNatClampNeg → vs.getD j (Value.int (0 : Int32)) = .int (f j)) :
    MetFree l (⟨"java/lang/Character", "codePointCount", "([CII)I"⟩ : MethodName) (head1 (Jvm.Cond.code (⟨"java/lang/Character", "codePointCount", "([CII)I"⟩ : MethodName) jdk_89_method_34_code 3 (some .int) :: ws) ({ frames := 2, cells := 0, slots := 0, locals := 29 } : Room)) (fun a U => a = #[(.ref a1), (.int p1), (.int p2)] ∧ Z.Warmed39 U.vm ∧ U.heap = h0) (fun _ _ _ _ _ => True) (fun _ U o U' => ∃ v L, o = .returned v ∧ Q12 a1 p1 p2 k z vs f h0 n0 v U'.heap L ∧ FrameEnd U o U' L ({ frames := 2, cells := 0, slots := 0, locals := 29 } : Room).cells ({ frames := 2, cells := 0, slots := 0, locals := 29 } : Room).slots) := by
  refine MetFree.of_bodySF (plainFor_of_name pn_java_lang_Character) hisR ?_
  intro p e s m args below meth c s₁ Bd hml0 hP hK
  obtain ⟨rfl, hZ, hh⟩ := hP
  have hx := Bd.exec
  have hby := Bd.bytes
  have hml : c.maxLocals = 3 := hml0
  have hown : s.vm.findClass "java/lang/Character" = some m.cls := findClass_of_methodNamed Bd.named
  have hnm := (name_of_methodNamed Bd.named Bd.method).1
  have X0 : Stand p l e ({ frames := 2, cells := 0, slots := 0, locals := 29 } : Room) s m #[(.ref a1), (.int p1), (.int p2)] below meth c s₁ [] 0 0 := Stand.of_body Bd
  have e0 : s₁.heap = h0 := by rw [← hh, Bd.state]; rfl
  have N0 := Fr.nil n0
  have KP0 : Keep h0 h0 [] := Keep.refl h0 _
  obtain ⟨G, hG⟩ : ∃ G : State, G = s₁.setTop (entryFrame m #[(.ref a1), (.int p1), (.int p2)] 3) := ⟨_, rfl⟩
  have pre0 : ∀ t, Steps p.tables e below (s₁.setTop (mkF m 0 #[.val (.ref a1), .val (.int p1), .val (.int p2)] [])) t → Steps p.tables e below G t := fun t k => hG ▸ castTop (ef_rm12 m a1 p1 p2) k
  obtain ⟨hor, hle⟩ := own_chk hp
  have K1 : ∀ t, Steps p.tables e below (s₁.setTop (mkF m 3 #[.val (.ref a1), .val (.int p1), .val (.int p2)] [(.ref a1), (.int p2), (.int p1)])) t → Steps p.tables e below G t := by
    intro t k
    refine pre0 t ?_
    show Steps p.tables e below (s₁.setTop (mkF m 0 #[.val (.ref a1), .val (.int p1), .val (.int p2)] [])) _
    refine XS.iloadN X0.here hx rfl (hb hby d12_0) rfl ?_
    show Steps p.tables e below (s₁.setTop (mkF m 1 #[.val (.ref a1), .val (.int p1), .val (.int p2)] [(.int p1)])) _
    refine XS.iloadN X0.here hx rfl (hb hby d12_1) rfl ?_
    show Steps p.tables e below (s₁.setTop (mkF m 2 #[.val (.ref a1), .val (.int p1), .val (.int p2)] [(.int p2), (.int p1)])) _
    refine XS.aloadN X0.here hx rfl (hb hby d12_2) rfl rfl ?_
    show Steps p.tables e below (s₁.setTop (mkF m 3 #[.val (.ref a1), .val (.int p1), .val (.int p2)] [(.ref a1), (.int p2), (.int p1)])) _
    exact k
  obtain ⟨cl2, Ar2, -, S2, M2, -, -⟩ := id V1
  have K3 : ∀ t, Steps p.tables e below (s₁.setTop (mkF m 4 #[.val (.ref a1), .val (.int p1), .val (.int p2)] [(.int z), (.int p2), (.int p1)])) t → Steps p.tables e below G t := by
    intro t k
    refine K1 t ?_
    refine X0.arraylength hx (by rw [e0]; exact Ar2.1) (State.isArrayOf_alike hZ.alike Ar2.2.1) (g := (mkF m 3 #[.val (.ref a1), .val (.int p1), .val (.int p2)] [(.ref a1), (.int p2), (.int p1)])) rfl rfl (hb hby d12_3) _ ?_
    rw [len_of S2 M2]
    exact k
  obtain ⟨_, _, ⟨T4, L4, kk4, nn4⟩, -, X4, ⟨Lc4, hQ4, lq4, yq4, zq4⟩, st4⟩ := Jvm.LawKit.callS X0 hx (y := (⟨"java/util/Objects", "checkFromIndexSize", "(III)I"⟩ : MethodName)) hown (mvT hZ (hw _ (List.mem_of_getElem? (i := 60) rfl))) (mvT hZ (hw _ (List.mem_of_getElem? (i := 61) rfl))) (mvT hZ (hw _ (List.mem_of_getElem? (i := 62) rfl))) (mvT hZ (hw _ (List.mem_of_getElem? (i := 63) rfl))) (by decide) (backOf (W := 0) (rm13 l Z a0 hw [] p1 p2 z h0 n0 Z0 hor hle) hZ (hw _ (List.mem_of_getElem? (i := 63) rfl)) (hw _ (List.mem_of_getElem? (i := 62) rfl)) (by decide) (by decide)) (g := (mkF m 4 #[.val (.ref a1), .val (.int p1), .val (.int p2)] [(.int z), (.int p2), (.int p1)])) rfl (by rw [hml]; rfl) (argsL := [(.int p1), (.int p2), (.int z)]) (rest := []) (lenOf pd_5 rfl) rfl (by show 2 * 0 + _ ≤ _; exact Nat.le_of_eq rfl) (hb hby d12_4) (fun _ _ => ⟨rfl, e0, (by decide : 0 + 0 ≤ _), (by decide : 0 + 0 ≤ _)⟩)
  dsimp only [Pt.U, Pt.locs, Pt.cells, Pt.slots] at X4 lq4 yq4 zq4 st4 hQ4
  subst lq4 yq4 zq4
  obtain ⟨rfl, Nq4, e4⟩ := hQ4
  have N5 := Fr.app N0 Nq4
  have K6 : ∀ t, Steps p.tables e below (T4.setTop (mkF m 7 #[.val (.ref a1), .val (.int p1), .val (.int p2)] [(.int p1)])) t → Steps p.tables e below G t := fun t k => K3 t (st4 _ k)
  have K7 : ∀ t, Steps p.tables e below (T4.setTop (mkF m 11 #[.val (.ref a1), .val (.int p1), .val (.int p2)] [(.int p2), (.int p1), (.ref a1)])) t → Steps p.tables e below G t := by
    intro t k
    refine K6 t ?_
    show Steps p.tables e below (T4.setTop (mkF m 7 #[.val (.ref a1), .val (.int p1), .val (.int p2)] [(.int p1)])) _
    refine XS.pop X4.here hx rfl (hb hby d12_7) rfl rfl ?_
    show Steps p.tables e below (T4.setTop (mkF m 8 #[.val (.ref a1), .val (.int p1), .val (.int p2)] [])) _
    refine XS.aloadN X4.here hx rfl (hb hby d12_8) rfl rfl ?_
    show Steps p.tables e below (T4.setTop (mkF m 9 #[.val (.ref a1), .val (.int p1), .val (.int p2)] [(.ref a1)])) _
    refine XS.iloadN X4.here hx rfl (hb hby d12_9) rfl ?_
    show Steps p.tables e below (T4.setTop (mkF m 10 #[.val (.ref a1), .val (.int p1), .val (.int p2)] [(.int p1), (.ref a1)])) _
    refine XS.iloadN X4.here hx rfl (hb hby d12_10) rfl ?_
    show Steps p.tables e below (T4.setTop (mkF m 11 #[.val (.ref a1), .val (.int p1), .val (.int p2)] [(.int p2), (.int p1), (.ref a1)])) _
    exact k
  obtain ⟨_, _, ⟨T8, L8, kk8, nn8⟩, -, X8, ⟨Lc8, hQ8, lq8, yq8, zq8⟩, st8⟩ := Jvm.LawKit.callS X4 hx (y := (⟨"java/lang/Character", "codePointCountImpl", "([CII)I"⟩ : MethodName)) hown (mvT hZ (hw _ (List.mem_of_getElem? (i := 68) rfl))) (mvT hZ (hw _ (List.mem_of_getElem? (i := 69) rfl))) (mvT hZ (hw _ (List.mem_of_getElem? (i := 58) rfl))) (mvT hZ (hw _ (List.mem_of_getElem? (i := 70) rfl))) (by decide) (backOf (W := 0) (rm15 l Z a0 hw [] a1 p1 p2 k z vs f h0 n0 Z0 V1 hp hf) hZ (hw _ (List.mem_of_getElem? (i := 70) rfl)) (hw _ (List.mem_of_getElem? (i := 58) rfl)) (by decide) (by decide)) (g := (mkF m 11 #[.val (.ref a1), .val (.int p1), .val (.int p2)] [(.int p2), (.int p1), (.ref a1)])) rfl (by rw [hml]; rfl) (argsL := [(.ref a1), (.int p1), (.int p2)]) (rest := []) (lenOf pd_6 rfl) rfl (by show 2 * 0 + _ ≤ _; exact Nat.le_of_eq rfl) (hb hby d12_11) (fun _ _ => ⟨rfl, e4, (by decide : 0 + 0 ≤ _), (by decide : 0 + 0 ≤ _)⟩)
  dsimp only [Pt.U, Pt.locs, Pt.cells, Pt.slots] at X8 lq8 yq8 zq8 st8 hQ8
  subst lq8 yq8 zq8
  obtain ⟨rfl, Nq8, e8⟩ := hQ8
  have N9 := Fr.app N5 Nq8
  have K10 : ∀ t, Steps p.tables e below (T8.setTop (mkF m 14 #[.val (.ref a1), .val (.int p1), .val (.int p2)] [(.int (p2 - own_pr f p2.toNatClampNeg p1.toNatClampNeg))])) t → Steps p.tables e below G t := fun t k => K7 t (st8 _ k)
  obtain ⟨fs, hr, hrun, hended, hW, hsame⟩ := X8.leave (v := some (.int (p2 - own_pr f p2.toNatClampNeg p1.toNatClampNeg))) (fun h => by rw [Bd.returns] at h; cases h)
  have KF := K10
  rw [hG] at KF
  refine ⟨_, _, KF _ ?_, hrun, hended, _, _, rfl, ?_, ⟨_, rfl⟩, hW, hsame.mono (by decide) (by decide)⟩
  · show Steps p.tables e below (T8.setTop (mkF m 14 #[.val (.ref a1), .val (.int p1), .val (.int p2)] [(.int (p2 - own_pr f p2.toNatClampNeg p1.toNatClampNeg))])) _
    exact own_retI X8 hx Bd.returns (hb hby d12_14) hr
  · show Q12 a1 p1 p2 k z vs f h0 n0 _ T8.heap _
    rw [e8]
    exact ⟨rfl, N9, rfl⟩
def Q11 (a1 : Addr) (p1 : Int32) (b2 : Addr) (m' : Int32) (k : ClassId) (z : Int32) (vs : List Value) (f : Nat → Int32) (h0 : Heap) (n0 : Nat) (v : Option Value) (h : Heap) (L : List Loc) : Prop := v = some (.int ((m' - p1) - own_pr f (m' - p1).toNatClampNeg p1.toNatClampNeg)) ∧ Fr n0 L ∧ h = h0
theorem d11_0 : decode prog_20_method_12_code 0 = .ok (.aload_n 0, 1) := by decide +kernel
theorem d11_1 : decode prog_20_method_12_code 1 = .ok (.getfield 7, 3) := by decide +kernel
theorem d11_4 : decode prog_20_method_12_code 4 = .ok (.iload_n 1, 1) := by decide +kernel
theorem d11_5 : decode prog_20_method_12_code 5 = .ok (.aload_n 0, 1) := by decide +kernel
theorem d11_6 : decode prog_20_method_12_code 6 = .ok (.getfield 13, 3) := by decide +kernel
theorem d11_9 : decode prog_20_method_12_code 9 = .ok (.iload_n 1, 1) := by decide +kernel
theorem d11_10 : decode prog_20_method_12_code 10 = .ok (.isub, 1) := by decide +kernel
theorem d11_11 : decode prog_20_method_12_code 11 = .ok (.invokestatic 48, 3) := by decide +kernel
theorem d11_14 : decode prog_20_method_12_code 14 = .ok (.ireturn, 1) := by decide +kernel
theorem ef_rm11 (m : MethodId) (x0 : Addr) (x1 : Int32) : entryFrame m #[(.ref x0), (.int x1)] 2 = mkF m 0 #[.val (.ref x0), .val (.int x1)] [] := by first | (simp [entryFrame, mkF, argsToLocals, Value.category]; done) | rfl
set_option maxRecDepth 65536 in
set_option maxHeartbeats 40000000 in
theorem rm11 (l : Launch) (Z : State) (a0 : Array Value) (hw : ∀ d ∈ tables_1, d.before a0 Z = true) (ws : List Jvm.Cond) (a1 : Addr) (p1 : Int32) (b2 : Addr) (m' : Int32) (k : ClassId) (z : Int32) (vs : List Value) (f : Nat → Int32) (h0 : Heap) (n0 : Nat) (Z0 : n0 ≤ h0.size) (F1 : Fld Z h0 a1 "org/arborlog/pattern/LineText" "chars" "[C" (.ref b2)) (F2 : Fld Z h0 a1 "org/arborlog/pattern/LineText" "length" "I" (.int m')) (V1 : Arv Z h0 b2 k .char z vs (Value.int (0 : Int32))) (hp : 0 ≤ p1.toInt ∧ 0 ≤ (m' - p1).toInt ∧ p1.toInt + (m' - p1).toInt ≤ z.toInt) (hf : ∀ j : Nat, j < (p1 + (m' - p1)).toNatClampNeg → vs.getD j (Value.int (0 : Int32)) = .int (f j)) :
    MetFree l (⟨"org/arborlog/pattern/LineText", "codePointCount", "(I)I"⟩ : MethodName) (head1 (Jvm.Cond.code (⟨"org/arborlog/pattern/LineText", "codePointCount", "(I)I"⟩ : MethodName) prog_20_method_12_code 2 (some .int) :: ws) ({ frames := 3, cells := 0, slots := 0, locals := 43 } : Room)) (fun a U => a = #[(.ref a1), (.int p1)] ∧ Z.Warmed39 U.vm ∧ U.heap = h0) (fun _ _ _ _ _ => True) (fun _ U o U' => ∃ v L, o = .returned v ∧ Q11 a1 p1 b2 m' k z vs f h0 n0 v U'.heap L ∧ FrameEnd U o U' L ({ frames := 3, cells := 0, slots := 0, locals := 43 } : Room).cells ({ frames := 3, cells := 0, slots := 0, locals := 43 } : Room).slots) := by
  refine MetFree.of_bodySF (plainFor_of_name pn_org_arborlog_pattern_LineText) hisR ?_
  intro p e s m args below meth c s₁ Bd hml0 hP hK
  obtain ⟨rfl, hZ, hh⟩ := hP
  have hx := Bd.exec
  have hby := Bd.bytes
  have hml : c.maxLocals = 2 := hml0
  have hown : s.vm.findClass "org/arborlog/pattern/LineText" = some m.cls := findClass_of_methodNamed Bd.named
  have hnm := (name_of_methodNamed Bd.named Bd.method).1
  have X0 : Stand p l e ({ frames := 3, cells := 0, slots := 0, locals := 43 } : Room) s m #[(.ref a1), (.int p1)] below meth c s₁ [] 0 0 := Stand.of_body Bd
  have e0 : s₁.heap = h0 := by rw [← hh, Bd.state]; rfl
  have N0 := Fr.nil n0
  have KP0 : Keep h0 h0 [] := Keep.refl h0 _
  obtain ⟨G, hG⟩ : ∃ G : State, G = s₁.setTop (entryFrame m #[(.ref a1), (.int p1)] 2) := ⟨_, rfl⟩
  have pre0 : ∀ t, Steps p.tables e below (s₁.setTop (mkF m 0 #[.val (.ref a1), .val (.int p1)] [])) t → Steps p.tables e below G t := fun t k => hG ▸ castTop (ef_rm11 m a1 p1) k
  have K1 : ∀ t, Steps p.tables e below (s₁.setTop (mkF m 1 #[.val (.ref a1), .val (.int p1)] [(.ref a1)])) t → Steps p.tables e below G t := by
    intro t k
    refine pre0 t ?_
    show Steps p.tables e below (s₁.setTop (mkF m 0 #[.val (.ref a1), .val (.int p1)] [])) _
    refine XS.aloadN X0.here hx rfl (hb hby d11_0) rfl rfl ?_
    show Steps p.tables e below (s₁.setTop (mkF m 1 #[.val (.ref a1), .val (.int p1)] [(.ref a1)])) _
    exact k
  obtain ⟨T2, X2, e2, st2⟩ := getF X0 hx hZ hown (host := "") (Or.inl (hw _ (List.mem_of_getElem? (i := 17) rfl))) Via.refl e0 F1 (g := (mkF m 1 #[.val (.ref a1), .val (.int p1)] [(.ref a1)])) rfl rfl (hb hby d11_1)
  have K3 : ∀ t, Steps p.tables e below (T2.setTop (mkF m 4 #[.val (.ref a1), .val (.int p1)] [(.ref b2)])) t → Steps p.tables e below G t := fun t k => K1 t (st2 t k)
  have K4 : ∀ t, Steps p.tables e below (T2.setTop (mkF m 6 #[.val (.ref a1), .val (.int p1)] [(.ref a1), (.int p1), (.ref b2)])) t → Steps p.tables e below G t := by
    intro t k
    refine K3 t ?_
    show Steps p.tables e below (T2.setTop (mkF m 4 #[.val (.ref a1), .val (.int p1)] [(.ref b2)])) _
    refine XS.iloadN X2.here hx rfl (hb hby d11_4) rfl ?_
    show Steps p.tables e below (T2.setTop (mkF m 5 #[.val (.ref a1), .val (.int p1)] [(.int p1), (.ref b2)])) _
    refine XS.aloadN X2.here hx rfl (hb hby d11_5) rfl rfl ?_
    show Steps p.tables e below (T2.setTop (mkF m 6 #[.val (.ref a1), .val (.int p1)] [(.ref a1), (.int p1), (.ref b2)])) _
    exact k
  obtain ⟨T5, X5, e5, st5⟩ := getF X2 hx hZ hown (host := "") (Or.inl (hw _ (List.mem_of_getElem? (i := 24) rfl))) Via.refl e2 F2 (g := (mkF m 6 #[.val (.ref a1), .val (.int p1)] [(.ref a1), (.int p1), (.ref b2)])) rfl rfl (hb hby d11_6)
  have K6 : ∀ t, Steps p.tables e below (T5.setTop (mkF m 9 #[.val (.ref a1), .val (.int p1)] [(.int m'), (.int p1), (.ref b2)])) t → Steps p.tables e below G t := fun t k => K4 t (st5 t k)
  have K7 : ∀ t, Steps p.tables e below (T5.setTop (mkF m 11 #[.val (.ref a1), .val (.int p1)] [(.int (m' - p1)), (.int p1), (.ref b2)])) t → Steps p.tables e below G t := by
    intro t k
    refine K6 t ?_
    show Steps p.tables e below (T5.setTop (mkF m 9 #[.val (.ref a1), .val (.int p1)] [(.int m'), (.int p1), (.ref b2)])) _
    refine XS.iloadN X5.here hx rfl (hb hby d11_9) rfl ?_
    show Steps p.tables e below (T5.setTop (mkF m 10 #[.val (.ref a1), .val (.int p1)] [(.int p1), (.int m'), (.int p1), (.ref b2)])) _
    refine XS.isub X5.here hx rfl (hb hby d11_10) rfl ?_
    show Steps p.tables e below (T5.setTop (mkF m 11 #[.val (.ref a1), .val (.int p1)] [(.int (m' - p1)), (.int p1), (.ref b2)])) _
    exact k
  obtain ⟨_, _, ⟨T8, L8, kk8, nn8⟩, -, X8, ⟨Lc8, hQ8, lq8, yq8, zq8⟩, st8⟩ := Jvm.LawKit.callS X5 hx (y := (⟨"java/lang/Character", "codePointCount", "([CII)I"⟩ : MethodName)) hown (mvT hZ (hw _ (List.mem_of_getElem? (i := 56) rfl))) (mvT hZ (hw _ (List.mem_of_getElem? (i := 57) rfl))) (mvT hZ (hw _ (List.mem_of_getElem? (i := 58) rfl))) (mvT hZ (hw _ (List.mem_of_getElem? (i := 59) rfl))) (by decide) (backOf (W := 0) (rm12 l Z a0 hw [] b2 p1 (m' - p1) k z vs f h0 n0 Z0 V1 hp hf) hZ (hw _ (List.mem_of_getElem? (i := 59) rfl)) (hw _ (List.mem_of_getElem? (i := 58) rfl)) (by decide) (by decide)) (g := (mkF m 11 #[.val (.ref a1), .val (.int p1)] [(.int (m' - p1)), (.int p1), (.ref b2)])) rfl (by rw [hml]; rfl) (argsL := [(.ref b2), (.int p1), (.int (m' - p1))]) (rest := []) (lenOf pd_6 rfl) rfl (by show 2 * 0 + _ ≤ _; exact Nat.le_of_eq rfl) (hb hby d11_11) (fun _ _ => ⟨rfl, e5, (by decide : 0 + 0 ≤ _), (by decide : 0 + 0 ≤ _)⟩)
  dsimp only [Pt.U, Pt.locs, Pt.cells, Pt.slots] at X8 lq8 yq8 zq8 st8 hQ8
  subst lq8 yq8 zq8
  obtain ⟨rfl, Nq8, e8⟩ := hQ8
  have N9 := Fr.app N0 Nq8
  have K10 : ∀ t, Steps p.tables e below (T8.setTop (mkF m 14 #[.val (.ref a1), .val (.int p1)] [(.int ((m' - p1) - own_pr f (m' - p1).toNatClampNeg p1.toNatClampNeg))])) t → Steps p.tables e below G t := fun t k => K7 t (st8 _ k)
  obtain ⟨fs, hr, hrun, hended, hW, hsame⟩ := X8.leave (v := some (.int ((m' - p1) - own_pr f (m' - p1).toNatClampNeg p1.toNatClampNeg))) (fun h => by rw [Bd.returns] at h; cases h)
  have KF := K10
  rw [hG] at KF
  refine ⟨_, _, KF _ ?_, hrun, hended, _, _, rfl, ?_, ⟨_, rfl⟩, hW, hsame.mono (by decide) (by decide)⟩
  · show Steps p.tables e below (T8.setTop (mkF m 14 #[.val (.ref a1), .val (.int p1)] [(.int ((m' - p1) - own_pr f (m' - p1).toNatClampNeg p1.toNatClampNeg))])) _
    exact own_retI X8 hx Bd.returns (hb hby d11_14) hr
  · show Q11 a1 p1 b2 m' k z vs f h0 n0 _ T8.heap _
    rw [e8]
    exact ⟨rfl, N9, rfl⟩
theorem own_r6 (x : Int32) : 0 ≤ ((x &&& 7) % 6).toInt ∧ ((x &&& 7) % 6).toInt ≤ 5 := by
  have m := c_mask x 7 3 (by decide) (by decide)
  have r := (c_irem (x &&& 7) 6 6 rfl).1 (by rw [m]; omega)
  omega
theorem own_n6 {n : Int32} (h : 0 ≤ n.toInt ∧ n.toInt ≤ 5) : n = 0 ∨ n = 1 ∨ n = 2 ∨ n = 3 ∨ n = 4 ∨ n = 5 := by
  have e : ∀ (k n : Int32), k.toInt = n.toInt → k = n := fun k n h => Int32.toInt_inj.mp h
  rcases (show n.toInt = 0 ∨ n.toInt = 1 ∨ n.toInt = 2 ∨ n.toInt = 3 ∨ n.toInt = 4 ∨ n.toInt = 5 by omega) with q | q | q | q | q | q
  · exact Or.inl (e _ 0 q)
  · exact Or.inr (Or.inl (e _ 1 q))
  · exact Or.inr (Or.inr (Or.inl (e _ 2 q)))
  · exact Or.inr (Or.inr (Or.inr (Or.inl (e _ 3 q))))
  · exact Or.inr (Or.inr (Or.inr (Or.inr (Or.inl (e _ 4 q)))))
  · exact Or.inr (Or.inr (Or.inr (Or.inr (Or.inr (e _ 5 q)))))
theorem own_n1 {n : Int32} (h : 0 ≤ n.toInt ∧ n.toInt ≤ 5) : (n + (1 : Int32)).toInt = n.toInt + 1 ∧ n + (1 : Int32) ≠ 0 := by
  have z1 : (1 : Int32).toInt = 1 := rfl
  have a := c_iadd n 1; have r := rng32 (n + 1)
  have e : (n + (1 : Int32)).toInt = n.toInt + 1 := by omega
  exact ⟨e, fun q => by rw [q] at e; have z0 : (0 : Int32).toInt = 0 := rfl; omega⟩
theorem own_rs (x n : Int32) (h : 0 ≤ n.toInt ∧ n.toInt ≤ 5) : 0 ≤ ((x &&& 7) % (n + 1)).toInt ∧ ((x &&& 7) % (n + 1)).toInt ≤ n.toInt := by
  have m := c_mask x 7 3 (by decide) (by decide)
  have e := (own_n1 h).1
  have r := (c_irem (x &&& 7) (n + 1) (n.toInt + 1) e).1 (by rw [m]; omega)
  have q1 := Int.emod_nonneg (x &&& 7).toInt (show n.toInt + 1 ≠ 0 by omega); have q2 := Int.emod_lt_of_pos (x &&& 7).toInt (show 0 < n.toInt + 1 by omega)
  omega
theorem own_cap (x : Int32) : ¬ (x &&& 7) < 0 ∧ (x &&& 7).toNatClampNeg ≤ 8 ∧ (x &&& 7).toInt ≤ 10 := by
  have m := c_mask x 7 3 (by decide) (by decide)
  have z0 : (0 : Int32).toInt = 0 := rfl
  simp only [Int32.lt_iff_toInt_lt, Int32.toNatClampNeg]; omega
theorem own_hp {n sa z : Int32} (hn : 0 ≤ n.toInt ∧ n.toInt ≤ 5) (hs : 0 ≤ sa.toInt ∧ sa.toInt ≤ n.toInt) (hz : ¬ z < n) : (0 ≤ sa.toInt ∧ 0 ≤ (n - sa).toInt ∧ sa.toInt + (n - sa).toInt ≤ z.toInt) ∧ sa + (n - sa) = n := by
  have a := c_isub n sa; have r := rng32 (n - sa)
  have e : (n - sa).toInt = n.toInt - sa.toInt := by omega
  have b := c_iadd sa (n - sa); have r2 := rng32 (sa + (n - sa))
  rw [Int32.lt_iff_toInt_lt] at hz
  exact ⟨by omega, Int32.toInt_inj.mp (by omega)⟩
theorem own_con_t (i sa n a b : Int32) (h1 : ¬ i < sa) (h2 : i < n) (h3 : sa < i) : own_con i sa n a b = 1 - own_t a b := by
  unfold own_con own_t; rw [if_neg h1, if_pos h2, if_pos h3]
  split
  · rfl
  · split <;> rfl
theorem own_fin_0_0 (f : Nat → Int32) (a0 a1 a2 a3 a4 : Int32) (h0 : f 0 = a0) (h1 : f 1 = a1) (h2 : f 2 = a2) (h3 : f 3 = a3) (h4 : f 4 = a4) : (0 : Int32) - (0 : Int32) - own_pr f ((0 : Int32) - (0 : Int32)).toNatClampNeg (0 : Int32).toNatClampNeg = own_con 0 0 0 0 a0 + own_con 1 0 0 a0 a1 + own_con 2 0 0 a1 a2 + own_con 3 0 0 a2 a3 + own_con 4 0 0 a3 a4 := by
  subst h0 h1 h2 h3 h4
  have c0 : own_con 0 0 0 0 (f 0) = 0 := by rfl
  have c1 : own_con 1 0 0 (f 0) (f 1) = 0 := by rfl
  have c2 : own_con 2 0 0 (f 1) (f 2) = 0 := by rfl
  have c3 : own_con 3 0 0 (f 2) (f 3) = 0 := by rfl
  have c4 : own_con 4 0 0 (f 3) (f 4) = 0 := by rfl
  rw [c0, c1, c2, c3, c4]
  show (0 : Int32) - 0 - 0 = _
  rfl
theorem own_fin_1_0 (f : Nat → Int32) (a0 a1 a2 a3 a4 : Int32) (h0 : f 0 = a0) (h1 : f 1 = a1) (h2 : f 2 = a2) (h3 : f 3 = a3) (h4 : f 4 = a4) : (1 : Int32) - (0 : Int32) - own_pr f ((1 : Int32) - (0 : Int32)).toNatClampNeg (0 : Int32).toNatClampNeg = own_con 0 0 1 0 a0 + own_con 1 0 1 a0 a1 + own_con 2 0 1 a1 a2 + own_con 3 0 1 a2 a3 + own_con 4 0 1 a3 a4 := by
  subst h0 h1 h2 h3 h4
  have c0 : own_con 0 0 1 0 (f 0) = 1 := by rfl
  have c1 : own_con 1 0 1 (f 0) (f 1) = 0 := by rfl
  have c2 : own_con 2 0 1 (f 1) (f 2) = 0 := by rfl
  have c3 : own_con 3 0 1 (f 2) (f 3) = 0 := by rfl
  have c4 : own_con 4 0 1 (f 3) (f 4) = 0 := by rfl
  rw [c0, c1, c2, c3, c4]
  show (1 : Int32) - 0 - 0 = _
  rfl
theorem own_fin_1_1 (f : Nat → Int32) (a0 a1 a2 a3 a4 : Int32) (h0 : f 0 = a0) (h1 : f 1 = a1) (h2 : f 2 = a2) (h3 : f 3 = a3) (h4 : f 4 = a4) : (1 : Int32) - (1 : Int32) - own_pr f ((1 : Int32) - (1 : Int32)).toNatClampNeg (1 : Int32).toNatClampNeg = own_con 0 1 1 0 a0 + own_con 1 1 1 a0 a1 + own_con 2 1 1 a1 a2 + own_con 3 1 1 a2 a3 + own_con 4 1 1 a3 a4 := by
  subst h0 h1 h2 h3 h4
  have c0 : own_con 0 1 1 0 (f 0) = 0 := by rfl
  have c1 : own_con 1 1 1 (f 0) (f 1) = 0 := by rfl
  have c2 : own_con 2 1 1 (f 1) (f 2) = 0 := by rfl
  have c3 : own_con 3 1 1 (f 2) (f 3) = 0 := by rfl
  have c4 : own_con 4 1 1 (f 3) (f 4) = 0 := by rfl
  rw [c0, c1, c2, c3, c4]
  show (1 : Int32) - 1 - 0 = _
  rfl
theorem own_fin_2_0 (f : Nat → Int32) (a0 a1 a2 a3 a4 : Int32) (h0 : f 0 = a0) (h1 : f 1 = a1) (h2 : f 2 = a2) (h3 : f 3 = a3) (h4 : f 4 = a4) : (2 : Int32) - (0 : Int32) - own_pr f ((2 : Int32) - (0 : Int32)).toNatClampNeg (0 : Int32).toNatClampNeg = own_con 0 0 2 0 a0 + own_con 1 0 2 a0 a1 + own_con 2 0 2 a1 a2 + own_con 3 0 2 a2 a3 + own_con 4 0 2 a3 a4 := by
  subst h0 h1 h2 h3 h4
  have c0 : own_con 0 0 2 0 (f 0) = 1 := by rfl
  have c1 : own_con 1 0 2 (f 0) (f 1) = 1 - own_t (f 0) (f 1) := own_con_t _ _ _ _ _ (by decide) (by decide) (by decide)
  have c2 : own_con 2 0 2 (f 1) (f 2) = 0 := by rfl
  have c3 : own_con 3 0 2 (f 2) (f 3) = 0 := by rfl
  have c4 : own_con 4 0 2 (f 3) (f 4) = 0 := by rfl
  rw [c0, c1, c2, c3, c4]
  show (2 : Int32) - 0 - (own_t (f 0) (f 1) + 0) = _
  rcases own_t01 (f 0) (f 1) with t0 | t0 <;> rw [t0] <;> rfl
theorem own_fin_2_1 (f : Nat → Int32) (a0 a1 a2 a3 a4 : Int32) (h0 : f 0 = a0) (h1 : f 1 = a1) (h2 : f 2 = a2) (h3 : f 3 = a3) (h4 : f 4 = a4) : (2 : Int32) - (1 : Int32) - own_pr f ((2 : Int32) - (1 : Int32)).toNatClampNeg (1 : Int32).toNatClampNeg = own_con 0 1 2 0 a0 + own_con 1 1 2 a0 a1 + own_con 2 1 2 a1 a2 + own_con 3 1 2 a2 a3 + own_con 4 1 2 a3 a4 := by
  subst h0 h1 h2 h3 h4
  have c0 : own_con 0 1 2 0 (f 0) = 0 := by rfl
  have c1 : own_con 1 1 2 (f 0) (f 1) = 1 := by rfl
  have c2 : own_con 2 1 2 (f 1) (f 2) = 0 := by rfl
  have c3 : own_con 3 1 2 (f 2) (f 3) = 0 := by rfl
  have c4 : own_con 4 1 2 (f 3) (f 4) = 0 := by rfl
  rw [c0, c1, c2, c3, c4]
  show (2 : Int32) - 1 - 0 = _
  rfl
theorem own_fin_2_2 (f : Nat → Int32) (a0 a1 a2 a3 a4 : Int32) (h0 : f 0 = a0) (h1 : f 1 = a1) (h2 : f 2 = a2) (h3 : f 3 = a3) (h4 : f 4 = a4) : (2 : Int32) - (2 : Int32) - own_pr f ((2 : Int32) - (2 : Int32)).toNatClampNeg (2 : Int32).toNatClampNeg = own_con 0 2 2 0 a0 + own_con 1 2 2 a0 a1 + own_con 2 2 2 a1 a2 + own_con 3 2 2 a2 a3 + own_con 4 2 2 a3 a4 := by
  subst h0 h1 h2 h3 h4
  have c0 : own_con 0 2 2 0 (f 0) = 0 := by rfl
  have c1 : own_con 1 2 2 (f 0) (f 1) = 0 := by rfl
  have c2 : own_con 2 2 2 (f 1) (f 2) = 0 := by rfl
  have c3 : own_con 3 2 2 (f 2) (f 3) = 0 := by rfl
  have c4 : own_con 4 2 2 (f 3) (f 4) = 0 := by rfl
  rw [c0, c1, c2, c3, c4]
  show (2 : Int32) - 2 - 0 = _
  rfl
theorem own_fin_3_0 (f : Nat → Int32) (a0 a1 a2 a3 a4 : Int32) (h0 : f 0 = a0) (h1 : f 1 = a1) (h2 : f 2 = a2) (h3 : f 3 = a3) (h4 : f 4 = a4) : (3 : Int32) - (0 : Int32) - own_pr f ((3 : Int32) - (0 : Int32)).toNatClampNeg (0 : Int32).toNatClampNeg = own_con 0 0 3 0 a0 + own_con 1 0 3 a0 a1 + own_con 2 0 3 a1 a2 + own_con 3 0 3 a2 a3 + own_con 4 0 3 a3 a4 := by
  subst h0 h1 h2 h3 h4
  have c0 : own_con 0 0 3 0 (f 0) = 1 := by rfl
  have c1 : own_con 1 0 3 (f 0) (f 1) = 1 - own_t (f 0) (f 1) := own_con_t _ _ _ _ _ (by decide) (by decide) (by decide)
  have c2 : own_con 2 0 3 (f 1) (f 2) = 1 - own_t (f 1) (f 2) := own_con_t _ _ _ _ _ (by decide) (by decide) (by decide)
  have c3 : own_con 3 0 3 (f 2) (f 3) = 0 := by rfl
  have c4 : own_con 4 0 3 (f 3) (f 4) = 0 := by rfl
  rw [c0, c1, c2, c3, c4]
  show (3 : Int32) - 0 - (own_t (f 0) (f 1) + (own_t (f 1) (f 2) + 0)) = _
  rcases own_t01 (f 0) (f 1) with t0 | t0 <;> rcases own_t01 (f 1) (f 2) with t1 | t1 <;> rw [t0, t1] <;> rfl
theorem own_fin_3_1 (f : Nat → Int32) (a0 a1 a2 a3 a4 : Int32) (h0 : f 0 = a0) (h1 : f 1 = a1) (h2 : f 2 = a2) (h3 : f 3 = a3) (h4 : f 4 = a4) : (3 : Int32) - (1 : Int32) - own_pr f ((3 : Int32) - (1 : Int32)).toNatClampNeg (1 : Int32).toNatClampNeg = own_con 0 1 3 0 a0 + own_con 1 1 3 a0 a1 + own_con 2 1 3 a1 a2 + own_con 3 1 3 a2 a3 + own_con 4 1 3 a3 a4 := by
  subst h0 h1 h2 h3 h4
  have c0 : own_con 0 1 3 0 (f 0) = 0 := by rfl
  have c1 : own_con 1 1 3 (f 0) (f 1) = 1 := by rfl
  have c2 : own_con 2 1 3 (f 1) (f 2) = 1 - own_t (f 1) (f 2) := own_con_t _ _ _ _ _ (by decide) (by decide) (by decide)
  have c3 : own_con 3 1 3 (f 2) (f 3) = 0 := by rfl
  have c4 : own_con 4 1 3 (f 3) (f 4) = 0 := by rfl
  rw [c0, c1, c2, c3, c4]
  show (3 : Int32) - 1 - (own_t (f 1) (f 2) + 0) = _
  rcases own_t01 (f 1) (f 2) with t0 | t0 <;> rw [t0] <;> rfl
theorem own_fin_3_2 (f : Nat → Int32) (a0 a1 a2 a3 a4 : Int32) (h0 : f 0 = a0) (h1 : f 1 = a1) (h2 : f 2 = a2) (h3 : f 3 = a3) (h4 : f 4 = a4) : (3 : Int32) - (2 : Int32) - own_pr f ((3 : Int32) - (2 : Int32)).toNatClampNeg (2 : Int32).toNatClampNeg = own_con 0 2 3 0 a0 + own_con 1 2 3 a0 a1 + own_con 2 2 3 a1 a2 + own_con 3 2 3 a2 a3 + own_con 4 2 3 a3 a4 := by
  subst h0 h1 h2 h3 h4
  have c0 : own_con 0 2 3 0 (f 0) = 0 := by rfl
  have c1 : own_con 1 2 3 (f 0) (f 1) = 0 := by rfl
  have c2 : own_con 2 2 3 (f 1) (f 2) = 1 := by rfl
  have c3 : own_con 3 2 3 (f 2) (f 3) = 0 := by rfl
  have c4 : own_con 4 2 3 (f 3) (f 4) = 0 := by rfl
  rw [c0, c1, c2, c3, c4]
  show (3 : Int32) - 2 - 0 = _
  rfl
theorem own_fin_3_3 (f : Nat → Int32) (a0 a1 a2 a3 a4 : Int32) (h0 : f 0 = a0) (h1 : f 1 = a1) (h2 : f 2 = a2) (h3 : f 3 = a3) (h4 : f 4 = a4) : (3 : Int32) - (3 : Int32) - own_pr f ((3 : Int32) - (3 : Int32)).toNatClampNeg (3 : Int32).toNatClampNeg = own_con 0 3 3 0 a0 + own_con 1 3 3 a0 a1 + own_con 2 3 3 a1 a2 + own_con 3 3 3 a2 a3 + own_con 4 3 3 a3 a4 := by
  subst h0 h1 h2 h3 h4
  have c0 : own_con 0 3 3 0 (f 0) = 0 := by rfl
  have c1 : own_con 1 3 3 (f 0) (f 1) = 0 := by rfl
  have c2 : own_con 2 3 3 (f 1) (f 2) = 0 := by rfl
  have c3 : own_con 3 3 3 (f 2) (f 3) = 0 := by rfl
  have c4 : own_con 4 3 3 (f 3) (f 4) = 0 := by rfl
  rw [c0, c1, c2, c3, c4]
  show (3 : Int32) - 3 - 0 = _
  rfl
theorem own_fin_4_0 (f : Nat → Int32) (a0 a1 a2 a3 a4 : Int32) (h0 : f 0 = a0) (h1 : f 1 = a1) (h2 : f 2 = a2) (h3 : f 3 = a3) (h4 : f 4 = a4) : (4 : Int32) - (0 : Int32) - own_pr f ((4 : Int32) - (0 : Int32)).toNatClampNeg (0 : Int32).toNatClampNeg = own_con 0 0 4 0 a0 + own_con 1 0 4 a0 a1 + own_con 2 0 4 a1 a2 + own_con 3 0 4 a2 a3 + own_con 4 0 4 a3 a4 := by
  subst h0 h1 h2 h3 h4
  have c0 : own_con 0 0 4 0 (f 0) = 1 := by rfl
  have c1 : own_con 1 0 4 (f 0) (f 1) = 1 - own_t (f 0) (f 1) := own_con_t _ _ _ _ _ (by decide) (by decide) (by decide)
  have c2 : own_con 2 0 4 (f 1) (f 2) = 1 - own_t (f 1) (f 2) := own_con_t _ _ _ _ _ (by decide) (by decide) (by decide)
  have c3 : own_con 3 0 4 (f 2) (f 3) = 1 - own_t (f 2) (f 3) := own_con_t _ _ _ _ _ (by decide) (by decide) (by decide)
  have c4 : own_con 4 0 4 (f 3) (f 4) = 0 := by rfl
  rw [c0, c1, c2, c3, c4]
  show (4 : Int32) - 0 - (own_t (f 0) (f 1) + (own_t (f 1) (f 2) + (own_t (f 2) (f 3) + 0))) = _
  rcases own_t01 (f 0) (f 1) with t0 | t0 <;> rcases own_t01 (f 1) (f 2) with t1 | t1 <;> rcases own_t01 (f 2) (f 3) with t2 | t2 <;> rw [t0, t1, t2] <;> rfl
theorem own_fin_4_1 (f : Nat → Int32) (a0 a1 a2 a3 a4 : Int32) (h0 : f 0 = a0) (h1 : f 1 = a1) (h2 : f 2 = a2) (h3 : f 3 = a3) (h4 : f 4 = a4) : (4 : Int32) - (1 : Int32) - own_pr f ((4 : Int32) - (1 : Int32)).toNatClampNeg (1 : Int32).toNatClampNeg = own_con 0 1 4 0 a0 + own_con 1 1 4 a0 a1 + own_con 2 1 4 a1 a2 + own_con 3 1 4 a2 a3 + own_con 4 1 4 a3 a4 := by
  subst h0 h1 h2 h3 h4
  have c0 : own_con 0 1 4 0 (f 0) = 0 := by rfl
  have c1 : own_con 1 1 4 (f 0) (f 1) = 1 := by rfl
  have c2 : own_con 2 1 4 (f 1) (f 2) = 1 - own_t (f 1) (f 2) := own_con_t _ _ _ _ _ (by decide) (by decide) (by decide)
  have c3 : own_con 3 1 4 (f 2) (f 3) = 1 - own_t (f 2) (f 3) := own_con_t _ _ _ _ _ (by decide) (by decide) (by decide)
  have c4 : own_con 4 1 4 (f 3) (f 4) = 0 := by rfl
  rw [c0, c1, c2, c3, c4]
  show (4 : Int32) - 1 - (own_t (f 1) (f 2) + (own_t (f 2) (f 3) + 0)) = _
  rcases own_t01 (f 1) (f 2) with t0 | t0 <;> rcases own_t01 (f 2) (f 3) with t1 | t1 <;> rw [t0, t1] <;> rfl
theorem own_fin_4_2 (f : Nat → Int32) (a0 a1 a2 a3 a4 : Int32) (h0 : f 0 = a0) (h1 : f 1 = a1) (h2 : f 2 = a2) (h3 : f 3 = a3) (h4 : f 4 = a4) : (4 : Int32) - (2 : Int32) - own_pr f ((4 : Int32) - (2 : Int32)).toNatClampNeg (2 : Int32).toNatClampNeg = own_con 0 2 4 0 a0 + own_con 1 2 4 a0 a1 + own_con 2 2 4 a1 a2 + own_con 3 2 4 a2 a3 + own_con 4 2 4 a3 a4 := by
  subst h0 h1 h2 h3 h4
  have c0 : own_con 0 2 4 0 (f 0) = 0 := by rfl
  have c1 : own_con 1 2 4 (f 0) (f 1) = 0 := by rfl
  have c2 : own_con 2 2 4 (f 1) (f 2) = 1 := by rfl
  have c3 : own_con 3 2 4 (f 2) (f 3) = 1 - own_t (f 2) (f 3) := own_con_t _ _ _ _ _ (by decide) (by decide) (by decide)
  have c4 : own_con 4 2 4 (f 3) (f 4) = 0 := by rfl
  rw [c0, c1, c2, c3, c4]
  show (4 : Int32) - 2 - (own_t (f 2) (f 3) + 0) = _
  rcases own_t01 (f 2) (f 3) with t0 | t0 <;> rw [t0] <;> rfl
theorem own_fin_4_3 (f : Nat → Int32) (a0 a1 a2 a3 a4 : Int32) (h0 : f 0 = a0) (h1 : f 1 = a1) (h2 : f 2 = a2) (h3 : f 3 = a3) (h4 : f 4 = a4) : (4 : Int32) - (3 : Int32) - own_pr f ((4 : Int32) - (3 : Int32)).toNatClampNeg (3 : Int32).toNatClampNeg = own_con 0 3 4 0 a0 + own_con 1 3 4 a0 a1 + own_con 2 3 4 a1 a2 + own_con 3 3 4 a2 a3 + own_con 4 3 4 a3 a4 := by
  subst h0 h1 h2 h3 h4
  have c0 : own_con 0 3 4 0 (f 0) = 0 := by rfl
  have c1 : own_con 1 3 4 (f 0) (f 1) = 0 := by rfl
  have c2 : own_con 2 3 4 (f 1) (f 2) = 0 := by rfl
  have c3 : own_con 3 3 4 (f 2) (f 3) = 1 := by rfl
  have c4 : own_con 4 3 4 (f 3) (f 4) = 0 := by rfl
  rw [c0, c1, c2, c3, c4]
  show (4 : Int32) - 3 - 0 = _
  rfl
theorem own_fin_4_4 (f : Nat → Int32) (a0 a1 a2 a3 a4 : Int32) (h0 : f 0 = a0) (h1 : f 1 = a1) (h2 : f 2 = a2) (h3 : f 3 = a3) (h4 : f 4 = a4) : (4 : Int32) - (4 : Int32) - own_pr f ((4 : Int32) - (4 : Int32)).toNatClampNeg (4 : Int32).toNatClampNeg = own_con 0 4 4 0 a0 + own_con 1 4 4 a0 a1 + own_con 2 4 4 a1 a2 + own_con 3 4 4 a2 a3 + own_con 4 4 4 a3 a4 := by
  subst h0 h1 h2 h3 h4
  have c0 : own_con 0 4 4 0 (f 0) = 0 := by rfl
  have c1 : own_con 1 4 4 (f 0) (f 1) = 0 := by rfl
  have c2 : own_con 2 4 4 (f 1) (f 2) = 0 := by rfl
  have c3 : own_con 3 4 4 (f 2) (f 3) = 0 := by rfl
  have c4 : own_con 4 4 4 (f 3) (f 4) = 0 := by rfl
  rw [c0, c1, c2, c3, c4]
  show (4 : Int32) - 4 - 0 = _
  rfl
theorem own_fin_5_0 (f : Nat → Int32) (a0 a1 a2 a3 a4 : Int32) (h0 : f 0 = a0) (h1 : f 1 = a1) (h2 : f 2 = a2) (h3 : f 3 = a3) (h4 : f 4 = a4) : (5 : Int32) - (0 : Int32) - own_pr f ((5 : Int32) - (0 : Int32)).toNatClampNeg (0 : Int32).toNatClampNeg = own_con 0 0 5 0 a0 + own_con 1 0 5 a0 a1 + own_con 2 0 5 a1 a2 + own_con 3 0 5 a2 a3 + own_con 4 0 5 a3 a4 := by
  subst h0 h1 h2 h3 h4
  have c0 : own_con 0 0 5 0 (f 0) = 1 := by rfl
  have c1 : own_con 1 0 5 (f 0) (f 1) = 1 - own_t (f 0) (f 1) := own_con_t _ _ _ _ _ (by decide) (by decide) (by decide)
  have c2 : own_con 2 0 5 (f 1) (f 2) = 1 - own_t (f 1) (f 2) := own_con_t _ _ _ _ _ (by decide) (by decide) (by decide)
  have c3 : own_con 3 0 5 (f 2) (f 3) = 1 - own_t (f 2) (f 3) := own_con_t _ _ _ _ _ (by decide) (by decide) (by decide)
  have c4 : own_con 4 0 5 (f 3) (f 4) = 1 - own_t (f 3) (f 4) := own_con_t _ _ _ _ _ (by decide) (by decide) (by decide)
  rw [c0, c1, c2, c3, c4]
  show (5 : Int32) - 0 - (own_t (f 0) (f 1) + (own_t (f 1) (f 2) + (own_t (f 2) (f 3) + (own_t (f 3) (f 4) + 0)))) = _
  rcases own_t01 (f 0) (f 1) with t0 | t0 <;> rcases own_t01 (f 1) (f 2) with t1 | t1 <;> rcases own_t01 (f 2) (f 3) with t2 | t2 <;> rcases own_t01 (f 3) (f 4) with t3 | t3 <;> rw [t0, t1, t2, t3] <;> rfl
theorem own_fin_5_1 (f : Nat → Int32) (a0 a1 a2 a3 a4 : Int32) (h0 : f 0 = a0) (h1 : f 1 = a1) (h2 : f 2 = a2) (h3 : f 3 = a3) (h4 : f 4 = a4) : (5 : Int32) - (1 : Int32) - own_pr f ((5 : Int32) - (1 : Int32)).toNatClampNeg (1 : Int32).toNatClampNeg = own_con 0 1 5 0 a0 + own_con 1 1 5 a0 a1 + own_con 2 1 5 a1 a2 + own_con 3 1 5 a2 a3 + own_con 4 1 5 a3 a4 := by
  subst h0 h1 h2 h3 h4
  have c0 : own_con 0 1 5 0 (f 0) = 0 := by rfl
  have c1 : own_con 1 1 5 (f 0) (f 1) = 1 := by rfl
  have c2 : own_con 2 1 5 (f 1) (f 2) = 1 - own_t (f 1) (f 2) := own_con_t _ _ _ _ _ (by decide) (by decide) (by decide)
  have c3 : own_con 3 1 5 (f 2) (f 3) = 1 - own_t (f 2) (f 3) := own_con_t _ _ _ _ _ (by decide) (by decide) (by decide)
  have c4 : own_con 4 1 5 (f 3) (f 4) = 1 - own_t (f 3) (f 4) := own_con_t _ _ _ _ _ (by decide) (by decide) (by decide)
  rw [c0, c1, c2, c3, c4]
  show (5 : Int32) - 1 - (own_t (f 1) (f 2) + (own_t (f 2) (f 3) + (own_t (f 3) (f 4) + 0))) = _
  rcases own_t01 (f 1) (f 2) with t0 | t0 <;> rcases own_t01 (f 2) (f 3) with t1 | t1 <;> rcases own_t01 (f 3) (f 4) with t2 | t2 <;> rw [t0, t1, t2] <;> rfl
theorem own_fin_5_2 (f : Nat → Int32) (a0 a1 a2 a3 a4 : Int32) (h0 : f 0 = a0) (h1 : f 1 = a1) (h2 : f 2 = a2) (h3 : f 3 = a3) (h4 : f 4 = a4) : (5 : Int32) - (2 : Int32) - own_pr f ((5 : Int32) - (2 : Int32)).toNatClampNeg (2 : Int32).toNatClampNeg = own_con 0 2 5 0 a0 + own_con 1 2 5 a0 a1 + own_con 2 2 5 a1 a2 + own_con 3 2 5 a2 a3 + own_con 4 2 5 a3 a4 := by
  subst h0 h1 h2 h3 h4
  have c0 : own_con 0 2 5 0 (f 0) = 0 := by rfl
  have c1 : own_con 1 2 5 (f 0) (f 1) = 0 := by rfl
  have c2 : own_con 2 2 5 (f 1) (f 2) = 1 := by rfl
  have c3 : own_con 3 2 5 (f 2) (f 3) = 1 - own_t (f 2) (f 3) := own_con_t _ _ _ _ _ (by decide) (by decide) (by decide)
  have c4 : own_con 4 2 5 (f 3) (f 4) = 1 - own_t (f 3) (f 4) := own_con_t _ _ _ _ _ (by decide) (by decide) (by decide)
  rw [c0, c1, c2, c3, c4]
  show (5 : Int32) - 2 - (own_t (f 2) (f 3) + (own_t (f 3) (f 4) + 0)) = _
  rcases own_t01 (f 2) (f 3) with t0 | t0 <;> rcases own_t01 (f 3) (f 4) with t1 | t1 <;> rw [t0, t1] <;> rfl
theorem own_fin_5_3 (f : Nat → Int32) (a0 a1 a2 a3 a4 : Int32) (h0 : f 0 = a0) (h1 : f 1 = a1) (h2 : f 2 = a2) (h3 : f 3 = a3) (h4 : f 4 = a4) : (5 : Int32) - (3 : Int32) - own_pr f ((5 : Int32) - (3 : Int32)).toNatClampNeg (3 : Int32).toNatClampNeg = own_con 0 3 5 0 a0 + own_con 1 3 5 a0 a1 + own_con 2 3 5 a1 a2 + own_con 3 3 5 a2 a3 + own_con 4 3 5 a3 a4 := by
  subst h0 h1 h2 h3 h4
  have c0 : own_con 0 3 5 0 (f 0) = 0 := by rfl
  have c1 : own_con 1 3 5 (f 0) (f 1) = 0 := by rfl
  have c2 : own_con 2 3 5 (f 1) (f 2) = 0 := by rfl
  have c3 : own_con 3 3 5 (f 2) (f 3) = 1 := by rfl
  have c4 : own_con 4 3 5 (f 3) (f 4) = 1 - own_t (f 3) (f 4) := own_con_t _ _ _ _ _ (by decide) (by decide) (by decide)
  rw [c0, c1, c2, c3, c4]
  show (5 : Int32) - 3 - (own_t (f 3) (f 4) + 0) = _
  rcases own_t01 (f 3) (f 4) with t0 | t0 <;> rw [t0] <;> rfl
theorem own_fin_5_4 (f : Nat → Int32) (a0 a1 a2 a3 a4 : Int32) (h0 : f 0 = a0) (h1 : f 1 = a1) (h2 : f 2 = a2) (h3 : f 3 = a3) (h4 : f 4 = a4) : (5 : Int32) - (4 : Int32) - own_pr f ((5 : Int32) - (4 : Int32)).toNatClampNeg (4 : Int32).toNatClampNeg = own_con 0 4 5 0 a0 + own_con 1 4 5 a0 a1 + own_con 2 4 5 a1 a2 + own_con 3 4 5 a2 a3 + own_con 4 4 5 a3 a4 := by
  subst h0 h1 h2 h3 h4
  have c0 : own_con 0 4 5 0 (f 0) = 0 := by rfl
  have c1 : own_con 1 4 5 (f 0) (f 1) = 0 := by rfl
  have c2 : own_con 2 4 5 (f 1) (f 2) = 0 := by rfl
  have c3 : own_con 3 4 5 (f 2) (f 3) = 0 := by rfl
  have c4 : own_con 4 4 5 (f 3) (f 4) = 1 := by rfl
  rw [c0, c1, c2, c3, c4]
  show (5 : Int32) - 4 - 0 = _
  rfl
theorem own_fin_5_5 (f : Nat → Int32) (a0 a1 a2 a3 a4 : Int32) (h0 : f 0 = a0) (h1 : f 1 = a1) (h2 : f 2 = a2) (h3 : f 3 = a3) (h4 : f 4 = a4) : (5 : Int32) - (5 : Int32) - own_pr f ((5 : Int32) - (5 : Int32)).toNatClampNeg (5 : Int32).toNatClampNeg = own_con 0 5 5 0 a0 + own_con 1 5 5 a0 a1 + own_con 2 5 5 a1 a2 + own_con 3 5 5 a2 a3 + own_con 4 5 5 a3 a4 := by
  subst h0 h1 h2 h3 h4
  have c0 : own_con 0 5 5 0 (f 0) = 0 := by rfl
  have c1 : own_con 1 5 5 (f 0) (f 1) = 0 := by rfl
  have c2 : own_con 2 5 5 (f 1) (f 2) = 0 := by rfl
  have c3 : own_con 3 5 5 (f 2) (f 3) = 0 := by rfl
  have c4 : own_con 4 5 5 (f 3) (f 4) = 0 := by rfl
  rw [c0, c1, c2, c3, c4]
  show (5 : Int32) - 5 - 0 = _
  rfl
def Q0 (n0 : Nat) (v : Option Value) (h : Heap) (L : List Loc) : Prop := v = some (.int 1) ∧ Fr n0 L
theorem pd_7 : parseMethodDescriptor "(I)C" = some ⟨[.int], some .char⟩ := by decide +kernel
theorem pd_8 : parseMethodDescriptor "([CIII)I" = some ⟨[(.array .char), .int, .int, .int], some .int⟩ := by decide +kernel
theorem pd_9 : parseMethodDescriptor "(I)I" = some ⟨[.int], some .int⟩ := by decide +kernel
theorem pd_10 : parseMethodDescriptor "(C)Lorg/arborlog/pattern/LineText;" = some ⟨[.char], some (.object "org/arborlog/pattern/LineText")⟩ := by decide +kernel
theorem ef_rm0 (m : MethodId) (x0 : Int32) (x1 : Int32) (x2 : Int32) (x3 : Int32) (x4 : Int32) (x5 : Int32) : entryFrame m #[(.int x0), (.int x1), (.int x2), (.int x3), (.int x4), (.int x5)] maxLocals = mkF m 0 #[.val (.int x0), .val (.int x1), .val (.int x2), .val (.int x3), .val (.int x4), .val (.int x5), .unset, .unset, .unset, .unset, .unset, .unset] [] := by first | (simp [entryFrame, mkF, argsToLocals, Value.category, maxLocals]; done) | rfl
set_option maxRecDepth 65536 in
set_option maxHeartbeats 40000000 in
theorem rm0 (l : Launch) (Z : State) (a0 : Array Value) (hw : ∀ d ∈ tables_1, d.before a0 Z = true) (ws : List Jvm.Cond) (p1 p2 p3 p4 p5 p6 : Int32) (h0 : Heap) (n0 : Nat) (Z0 : n0 ≤ h0.size) :
    MetFree l x (head1 (Jvm.Cond.code x code maxLocals ret :: ws) room_1) (fun a U => a = #[(.int p1), (.int p2), (.int p3), (.int p4), (.int p5), (.int p6)] ∧ Z.Warmed39 U.vm ∧ U.heap = h0) (fun _ _ _ _ _ => True) (fun _ U o U' => ∃ v L, o = .returned v ∧ Q0 n0 v U'.heap L ∧ FrameEnd U o U' L room_1.cells room_1.slots) := by
  refine MetFree.of_bodySF (plainFor_of_name pn_org_arborlog_pattern_LineTextCodePointCountPinLaw) hisR ?_
  intro p e s m args below meth c s₁ Bd hml0 hP hK
  obtain ⟨rfl, hZ, hh⟩ := hP
  have hx := Bd.exec
  have hby := Bd.bytes
  have hml : c.maxLocals = 12 := hml0
  have hown : s.vm.findClass "org/arborlog/pattern/LineTextCodePointCountPinLaw" = some m.cls := findClass_of_methodNamed Bd.named
  have hnm := (name_of_methodNamed Bd.named Bd.method).1
  have X0 : Stand p l e room_1 s m #[(.int p1), (.int p2), (.int p3), (.int p4), (.int p5), (.int p6)] below meth c s₁ [] 0 0 := Stand.of_body Bd
  have e0 : s₁.heap = h0 := by rw [← hh, Bd.state]; rfl
  have N0 := Fr.nil n0
  have KP0 : Keep h0 h0 [] := Keep.refl h0 _
  obtain ⟨G, hG⟩ : ∃ G : State, G = s₁.setTop (entryFrame m #[(.int p1), (.int p2), (.int p3), (.int p4), (.int p5), (.int p6)] maxLocals) := ⟨_, rfl⟩
  have pre0 : ∀ t, Steps p.tables e below (s₁.setTop (mkF m 0 #[.val (.int p1), .val (.int p2), .val (.int p3), .val (.int p4), .val (.int p5), .val (.int p6), .unset, .unset, .unset, .unset, .unset, .unset] [])) t → Steps p.tables e below G t := fun t k => hG ▸ castTop (ef_rm0 m p1 p2 p3 p4 p5 p6) k
  have K1 : ∀ t, Steps p.tables e below (s₁.setTop (mkF m 8 #[.val (.int p1), .val (.int p2), .val (.int p3), .val (.int p4), .val (.int p5), .val (.int p6), .unset, .unset, .unset, .unset, .unset, .unset] [(.int ((p6 &&& (7 : Int32)) % (6 : Int32)))])) t → Steps p.tables e below G t := by
    intro t k
    refine pre0 t ?_
    show Steps p.tables e below (s₁.setTop (mkF m 0 #[.val (.int p1), .val (.int p2), .val (.int p3), .val (.int p4), .val (.int p5), .val (.int p6), .unset, .unset, .unset, .unset, .unset, .unset] [])) _
    refine XS.iload X0.here hx rfl (hb hby at_0) rfl ?_
    show Steps p.tables e below (s₁.setTop (mkF m 2 #[.val (.int p1), .val (.int p2), .val (.int p3), .val (.int p4), .val (.int p5), .val (.int p6), .unset, .unset, .unset, .unset, .unset, .unset] [(.int p6)])) _
    refine XS.bipush X0.here hx rfl (hb hby at_2) ?_
    show Steps p.tables e below (s₁.setTop (mkF m 4 #[.val (.int p1), .val (.int p2), .val (.int p3), .val (.int p4), .val (.int p5), .val (.int p6), .unset, .unset, .unset, .unset, .unset, .unset] [(.int (7 : Int32)), (.int p6)])) _
    refine XS.iand X0.here hx rfl (hb hby at_4) rfl ?_
    show Steps p.tables e below (s₁.setTop (mkF m 5 #[.val (.int p1), .val (.int p2), .val (.int p3), .val (.int p4), .val (.int p5), .val (.int p6), .unset, .unset, .unset, .unset, .unset, .unset] [(.int (p6 &&& (7 : Int32)))])) _
    refine XS.bipush X0.here hx rfl (hb hby at_5) ?_
    show Steps p.tables e below (s₁.setTop (mkF m 7 #[.val (.int p1), .val (.int p2), .val (.int p3), .val (.int p4), .val (.int p5), .val (.int p6), .unset, .unset, .unset, .unset, .unset, .unset] [(.int (6 : Int32)), (.int (p6 &&& (7 : Int32)))])) _
    refine iremM X0 hx rfl (hb hby at_7) rfl (by decide) ?_
    show Steps p.tables e below (s₁.setTop (mkF m 8 #[.val (.int p1), .val (.int p2), .val (.int p3), .val (.int p4), .val (.int p5), .val (.int p6), .unset, .unset, .unset, .unset, .unset, .unset] [(.int ((p6 &&& (7 : Int32)) % (6 : Int32)))])) _
    exact k
  obtain ⟨nv, h_nv⟩ : ∃ z_ : Int32, z_ = ((p6 &&& (7 : Int32)) % (6 : Int32)) := ⟨_, rfl⟩
  have K2 : ∀ t, Steps p.tables e below (s₁.setTop (mkF m 8 #[.val (.int p1), .val (.int p2), .val (.int p3), .val (.int p4), .val (.int p5), .val (.int p6), .unset, .unset, .unset, .unset, .unset, .unset] [(.int nv)])) t → Steps p.tables e below G t := by rw [h_nv]; exact K1
  have hn5 : 0 ≤ nv.toInt ∧ nv.toInt ≤ 5 := by rw [h_nv]; exact own_r6 _
  have K3 : ∀ t, Steps p.tables e below (s₁.setTop (mkF m 22 #[.val (.int p1), .val (.int p2), .val (.int p3), .val (.int p4), .val (.int p5), .val (.int p6), .val (.int nv), .unset, .unset, .unset, .unset, .unset] [(.int ((((p6.toUInt32 >>> ((3 : Int32) &&& 31).toUInt32).toInt32) &&& (7 : Int32)) % (nv + (1 : Int32))))])) t → Steps p.tables e below G t := by
    intro t k
    refine K2 t ?_
    show Steps p.tables e below (s₁.setTop (mkF m 8 #[.val (.int p1), .val (.int p2), .val (.int p3), .val (.int p4), .val (.int p5), .val (.int p6), .unset, .unset, .unset, .unset, .unset, .unset] [(.int nv)])) _
    refine XS.istore X0.here hx rfl (hb hby at_8) rfl (l' := #[.val (.int p1), .val (.int p2), .val (.int p3), .val (.int p4), .val (.int p5), .val (.int p6), .val (.int nv), .unset, .unset, .unset, .unset, .unset]) rfl ?_
    show Steps p.tables e below (s₁.setTop (mkF m 10 #[.val (.int p1), .val (.int p2), .val (.int p3), .val (.int p4), .val (.int p5), .val (.int p6), .val (.int nv), .unset, .unset, .unset, .unset, .unset] [])) _
    refine XS.iload X0.here hx rfl (hb hby at_10) rfl ?_
    show Steps p.tables e below (s₁.setTop (mkF m 12 #[.val (.int p1), .val (.int p2), .val (.int p3), .val (.int p4), .val (.int p5), .val (.int p6), .val (.int nv), .unset, .unset, .unset, .unset, .unset] [(.int p6)])) _
    refine XS.iconst X0.here hx rfl (hb hby at_12) ?_
    show Steps p.tables e below (s₁.setTop (mkF m 13 #[.val (.int p1), .val (.int p2), .val (.int p3), .val (.int p4), .val (.int p5), .val (.int p6), .val (.int nv), .unset, .unset, .unset, .unset, .unset] [(.int (3 : Int32)), (.int p6)])) _
    refine XS.iushr X0.here hx rfl (hb hby at_13) rfl ?_
    show Steps p.tables e below (s₁.setTop (mkF m 14 #[.val (.int p1), .val (.int p2), .val (.int p3), .val (.int p4), .val (.int p5), .val (.int p6), .val (.int nv), .unset, .unset, .unset, .unset, .unset] [(.int ((p6.toUInt32 >>> ((3 : Int32) &&& 31).toUInt32).toInt32))])) _
    refine XS.bipush X0.here hx rfl (hb hby at_14) ?_
    show Steps p.tables e below (s₁.setTop (mkF m 16 #[.val (.int p1), .val (.int p2), .val (.int p3), .val (.int p4), .val (.int p5), .val (.int p6), .val (.int nv), .unset, .unset, .unset, .unset, .unset] [(.int (7 : Int32)), (.int ((p6.toUInt32 >>> ((3 : Int32) &&& 31).toUInt32).toInt32))])) _
    refine XS.iand X0.here hx rfl (hb hby at_16) rfl ?_
    show Steps p.tables e below (s₁.setTop (mkF m 17 #[.val (.int p1), .val (.int p2), .val (.int p3), .val (.int p4), .val (.int p5), .val (.int p6), .val (.int nv), .unset, .unset, .unset, .unset, .unset] [(.int (((p6.toUInt32 >>> ((3 : Int32) &&& 31).toUInt32).toInt32) &&& (7 : Int32)))])) _
    refine XS.iload X0.here hx rfl (hb hby at_17) rfl ?_
    show Steps p.tables e below (s₁.setTop (mkF m 19 #[.val (.int p1), .val (.int p2), .val (.int p3), .val (.int p4), .val (.int p5), .val (.int p6), .val (.int nv), .unset, .unset, .unset, .unset, .unset] [(.int nv), (.int (((p6.toUInt32 >>> ((3 : Int32) &&& 31).toUInt32).toInt32) &&& (7 : Int32)))])) _
    refine XS.iconst X0.here hx rfl (hb hby at_19) ?_
    show Steps p.tables e below (s₁.setTop (mkF m 20 #[.val (.int p1), .val (.int p2), .val (.int p3), .val (.int p4), .val (.int p5), .val (.int p6), .val (.int nv), .unset, .unset, .unset, .unset, .unset] [(.int (1 : Int32)), (.int nv), (.int (((p6.toUInt32 >>> ((3 : Int32) &&& 31).toUInt32).toInt32) &&& (7 : Int32)))])) _
    refine XS.iadd X0.here hx rfl (hb hby at_20) rfl ?_
    show Steps p.tables e below (s₁.setTop (mkF m 21 #[.val (.int p1), .val (.int p2), .val (.int p3), .val (.int p4), .val (.int p5), .val (.int p6), .val (.int nv), .unset, .unset, .unset, .unset, .unset] [(.int (nv + (1 : Int32))), (.int (((p6.toUInt32 >>> ((3 : Int32) &&& 31).toUInt32).toInt32) &&& (7 : Int32)))])) _
    refine iremM X0 hx rfl (hb hby at_21) rfl (own_n1 hn5).2 ?_
    show Steps p.tables e below (s₁.setTop (mkF m 22 #[.val (.int p1), .val (.int p2), .val (.int p3), .val (.int p4), .val (.int p5), .val (.int p6), .val (.int nv), .unset, .unset, .unset, .unset, .unset] [(.int ((((p6.toUInt32 >>> ((3 : Int32) &&& 31).toUInt32).toInt32) &&& (7 : Int32)) % (nv + (1 : Int32))))])) _
    exact k
  obtain ⟨sa, h_sa⟩ : ∃ z_ : Int32, z_ = ((((p6.toUInt32 >>> ((3 : Int32) &&& 31).toUInt32).toInt32) &&& (7 : Int32)) % (nv + (1 : Int32))) := ⟨_, rfl⟩
  have K4 : ∀ t, Steps p.tables e below (s₁.setTop (mkF m 22 #[.val (.int p1), .val (.int p2), .val (.int p3), .val (.int p4), .val (.int p5), .val (.int p6), .val (.int nv), .unset, .unset, .unset, .unset, .unset] [(.int sa)])) t → Steps p.tables e below G t := by rw [h_sa]; exact K3
  have hsa : 0 ≤ sa.toInt ∧ sa.toInt ≤ nv.toInt := by rw [h_sa]; exact own_rs _ _ hn5
  have hsa0 : ¬ sa < 0 := by rw [Int32.lt_iff_toInt_lt]; have z0 : (0 : Int32).toInt = 0 := rfl; omega
  have K5 : ∀ t, Steps p.tables e below (s₁.setTop (mkF m 32 #[.val (.int p1), .val (.int p2), .val (.int p3), .val (.int p4), .val (.int p5), .val (.int p6), .val (.int nv), .val (.int sa), .unset, .unset, .unset, .unset] [(.int (((p6.toUInt32 >>> ((6 : Int32) &&& 31).toUInt32).toInt32) &&& (7 : Int32)))])) t → Steps p.tables e below G t := by
    intro t k
    refine K4 t ?_
    show Steps p.tables e below (s₁.setTop (mkF m 22 #[.val (.int p1), .val (.int p2), .val (.int p3), .val (.int p4), .val (.int p5), .val (.int p6), .val (.int nv), .unset, .unset, .unset, .unset, .unset] [(.int sa)])) _
    refine XS.istore X0.here hx rfl (hb hby at_22) rfl (l' := #[.val (.int p1), .val (.int p2), .val (.int p3), .val (.int p4), .val (.int p5), .val (.int p6), .val (.int nv), .val (.int sa), .unset, .unset, .unset, .unset]) rfl ?_
    show Steps p.tables e below (s₁.setTop (mkF m 24 #[.val (.int p1), .val (.int p2), .val (.int p3), .val (.int p4), .val (.int p5), .val (.int p6), .val (.int nv), .val (.int sa), .unset, .unset, .unset, .unset] [])) _
    refine XS.iload X0.here hx rfl (hb hby at_24) rfl ?_
    show Steps p.tables e below (s₁.setTop (mkF m 26 #[.val (.int p1), .val (.int p2), .val (.int p3), .val (.int p4), .val (.int p5), .val (.int p6), .val (.int nv), .val (.int sa), .unset, .unset, .unset, .unset] [(.int p6)])) _
    refine XS.bipush X0.here hx rfl (hb hby at_26) ?_
    show Steps p.tables e below (s₁.setTop (mkF m 28 #[.val (.int p1), .val (.int p2), .val (.int p3), .val (.int p4), .val (.int p5), .val (.int p6), .val (.int nv), .val (.int sa), .unset, .unset, .unset, .unset] [(.int (6 : Int32)), (.int p6)])) _
    refine XS.iushr X0.here hx rfl (hb hby at_28) rfl ?_
    show Steps p.tables e below (s₁.setTop (mkF m 29 #[.val (.int p1), .val (.int p2), .val (.int p3), .val (.int p4), .val (.int p5), .val (.int p6), .val (.int nv), .val (.int sa), .unset, .unset, .unset, .unset] [(.int ((p6.toUInt32 >>> ((6 : Int32) &&& 31).toUInt32).toInt32))])) _
    refine XS.bipush X0.here hx rfl (hb hby at_29) ?_
    show Steps p.tables e below (s₁.setTop (mkF m 31 #[.val (.int p1), .val (.int p2), .val (.int p3), .val (.int p4), .val (.int p5), .val (.int p6), .val (.int nv), .val (.int sa), .unset, .unset, .unset, .unset] [(.int (7 : Int32)), (.int ((p6.toUInt32 >>> ((6 : Int32) &&& 31).toUInt32).toInt32))])) _
    refine XS.iand X0.here hx rfl (hb hby at_31) rfl ?_
    show Steps p.tables e below (s₁.setTop (mkF m 32 #[.val (.int p1), .val (.int p2), .val (.int p3), .val (.int p4), .val (.int p5), .val (.int p6), .val (.int nv), .val (.int sa), .unset, .unset, .unset, .unset] [(.int (((p6.toUInt32 >>> ((6 : Int32) &&& 31).toUInt32).toInt32) &&& (7 : Int32)))])) _
    exact k
  obtain ⟨cp, h_cp⟩ : ∃ z_ : Int32, z_ = (((p6.toUInt32 >>> ((6 : Int32) &&& 31).toUInt32).toInt32) &&& (7 : Int32)) := ⟨_, rfl⟩
  have K6 : ∀ t, Steps p.tables e below (s₁.setTop (mkF m 32 #[.val (.int p1), .val (.int p2), .val (.int p3), .val (.int p4), .val (.int p5), .val (.int p6), .val (.int nv), .val (.int sa), .unset, .unset, .unset, .unset] [(.int cp)])) t → Steps p.tables e below G t := by rw [h_cp]; exact K5
  have hc7 := own_cap ((p6.toUInt32 >>> ((6 : Int32) &&& 31).toUInt32).toInt32)
  rw [← h_cp] at hc7
  have K7 : ∀ t, Steps p.tables e below (s₁.setTop (mkF m 35 #[.val (.int p1), .val (.int p2), .val (.int p3), .val (.int p4), .val (.int p5), .val (.int p6), .val (.int nv), .val (.int sa), .val (.int cp), .unset, .unset, .unset] [(.int (5 : Int32))])) t → Steps p.tables e below G t := by
    intro t k
    refine K6 t ?_
    show Steps p.tables e below (s₁.setTop (mkF m 32 #[.val (.int p1), .val (.int p2), .val (.int p3), .val (.int p4), .val (.int p5), .val (.int p6), .val (.int nv), .val (.int sa), .unset, .unset, .unset, .unset] [(.int cp)])) _
    refine XS.istore X0.here hx rfl (hb hby at_32) rfl (l' := #[.val (.int p1), .val (.int p2), .val (.int p3), .val (.int p4), .val (.int p5), .val (.int p6), .val (.int nv), .val (.int sa), .val (.int cp), .unset, .unset, .unset]) rfl ?_
    show Steps p.tables e below (s₁.setTop (mkF m 34 #[.val (.int p1), .val (.int p2), .val (.int p3), .val (.int p4), .val (.int p5), .val (.int p6), .val (.int nv), .val (.int sa), .val (.int cp), .unset, .unset, .unset] [])) _
    refine XS.iconst X0.here hx rfl (hb hby at_34) ?_
    show Steps p.tables e below (s₁.setTop (mkF m 35 #[.val (.int p1), .val (.int p2), .val (.int p3), .val (.int p4), .val (.int p5), .val (.int p6), .val (.int nv), .val (.int sa), .val (.int cp), .unset, .unset, .unset] [(.int (5 : Int32))])) _
    exact k
  obtain ⟨T8, h8, kn8, X8, e8, E8, A8, st8⟩ := newP X0 hx hZ (hw _ (List.mem_of_getElem? (i := 0) rfl)) e0 (g := (mkF m 35 #[.val (.int p1), .val (.int p2), .val (.int p3), .val (.int p4), .val (.int p5), .val (.int p6), .val (.int nv), .val (.int sa), .val (.int cp), .unset, .unset, .unset] [(.int (5 : Int32))])) rfl (hb hby at_35) rfl (by decide) (cap := 5) (by decide) (by decide) (by decide) (by decide)
  obtain ⟨b8, g8⟩ : ∃ z, z = h0.size := ⟨_, rfl⟩
  rw [← g8] at A8 st8
  have g_b8 : n0 ≤ b8 := Nat.le_trans Z0 (Nat.le_of_eq g8.symm)
  have sz_b8 : h0.size ≤ b8 := Nat.le_trans KP0.1 (Nat.le_of_eq g8.symm)
  have Z9 : n0 ≤ h8.size := Nat.le_trans Z0 E8.1
  have KP10 : Keep h0 h8 [] := KP0.ext E8
  have K11 : ∀ t, Steps p.tables e below (T8.setTop (mkF m 37 #[.val (.int p1), .val (.int p2), .val (.int p3), .val (.int p4), .val (.int p5), .val (.int p6), .val (.int nv), .val (.int sa), .val (.int cp), .unset, .unset, .unset] [(.ref b8)])) t → Steps p.tables e below G t := fun t k => K7 t (st8 t k)
  have V8 : Arv Z h8 b8 kn8 .char (5 : Int32) [(.int (0 : Int32)), (.int (0 : Int32)), (.int (0 : Int32)), (.int (0 : Int32)), (.int (0 : Int32))] (.int (0 : Int32)) := (Arv.new A8 (by decide)).pad (pad_rep [] (.int (0 : Int32)) 5)
  have K12 : ∀ t, Steps p.tables e below (T8.setTop (mkF m 43 #[.val (.int p1), .val (.int p2), .val (.int p3), .val (.int p4), .val (.int p5), .val (.int p6), .val (.int nv), .val (.int sa), .val (.int cp), .val (.ref b8), .unset, .unset] [(.int p1), (.int (0 : Int32)), (.ref b8)])) t → Steps p.tables e below G t := by
    intro t k
    refine K11 t ?_
    show Steps p.tables e below (T8.setTop (mkF m 37 #[.val (.int p1), .val (.int p2), .val (.int p3), .val (.int p4), .val (.int p5), .val (.int p6), .val (.int nv), .val (.int sa), .val (.int cp), .unset, .unset, .unset] [(.ref b8)])) _
    refine XS.astore X8.here hx rfl (hb hby at_37) rfl rfl (l' := #[.val (.int p1), .val (.int p2), .val (.int p3), .val (.int p4), .val (.int p5), .val (.int p6), .val (.int nv), .val (.int sa), .val (.int cp), .val (.ref b8), .unset, .unset]) rfl ?_
    show Steps p.tables e below (T8.setTop (mkF m 39 #[.val (.int p1), .val (.int p2), .val (.int p3), .val (.int p4), .val (.int p5), .val (.int p6), .val (.int nv), .val (.int sa), .val (.int cp), .val (.ref b8), .unset, .unset] [])) _
    refine XS.aload X8.here hx rfl (hb hby at_39) rfl rfl ?_
    show Steps p.tables e below (T8.setTop (mkF m 41 #[.val (.int p1), .val (.int p2), .val (.int p3), .val (.int p4), .val (.int p5), .val (.int p6), .val (.int nv), .val (.int sa), .val (.int cp), .val (.ref b8), .unset, .unset] [(.ref b8)])) _
    refine XS.iconst X8.here hx rfl (hb hby at_41) ?_
    show Steps p.tables e below (T8.setTop (mkF m 42 #[.val (.int p1), .val (.int p2), .val (.int p3), .val (.int p4), .val (.int p5), .val (.int p6), .val (.int nv), .val (.int sa), .val (.int cp), .val (.ref b8), .unset, .unset] [(.int (0 : Int32)), (.ref b8)])) _
    refine XS.iloadN X8.here hx rfl (hb hby at_42) rfl ?_
    show Steps p.tables e below (T8.setTop (mkF m 43 #[.val (.int p1), .val (.int p2), .val (.int p3), .val (.int p4), .val (.int p5), .val (.int p6), .val (.int nv), .val (.int sa), .val (.int cp), .val (.ref b8), .unset, .unset] [(.int p1), (.int (0 : Int32)), (.ref b8)])) _
    exact k
  obtain ⟨_, _, ⟨T13, L13, kk13, nn13⟩, -, X13, ⟨Lc13, hQ13, lq13, yq13, zq13⟩, st13⟩ := Jvm.LawKit.callS X8 hx (y := (⟨"org/arborlog/pattern/LineTextCodePointCountPinLaw", "draw", "(I)C"⟩ : MethodName)) hown (mvT hZ (hw _ (List.mem_of_getElem? (i := 1) rfl))) (mvT hZ (hw _ (List.mem_of_getElem? (i := 2) rfl))) (mvT hZ (hw _ (List.mem_of_getElem? (i := 3) rfl))) (mvT hZ (hw _ (List.mem_of_getElem? (i := 4) rfl))) (by decide) (backOf (W := 2) (rm1 l Z a0 hw [] p1 h8 n0 Z9) hZ (hw _ (List.mem_of_getElem? (i := 4) rfl)) (hw _ (List.mem_of_getElem? (i := 3) rfl)) (by decide) (by decide)) (g := (mkF m 43 #[.val (.int p1), .val (.int p2), .val (.int p3), .val (.int p4), .val (.int p5), .val (.int p6), .val (.int nv), .val (.int sa), .val (.int cp), .val (.ref b8), .unset, .unset] [(.int p1), (.int (0 : Int32)), (.ref b8)])) rfl (by rw [hml]; rfl) (argsL := [(.int p1)]) (rest := [(.int (0 : Int32)), (.ref b8)]) (lenOf pd_7 rfl) rfl (by show 2 * 0 + _ ≤ _; exact Nat.le_of_eq rfl) (hb hby at_43) (fun _ _ => ⟨rfl, e8, (by decide : 1 + 0 ≤ _), (by decide : 5 + 0 ≤ _)⟩)
  dsimp only [Pt.U, Pt.locs, Pt.cells, Pt.slots] at X13 lq13 yq13 zq13 st13 hQ13
  subst lq13 yq13 zq13
  obtain ⟨r13, rfl, Nq13, e13⟩ := hQ13
  have N14 := Fr.app N0 Nq13
  have K15 : ∀ t, Steps p.tables e below (T13.setTop (mkF m 46 #[.val (.int p1), .val (.int p2), .val (.int p3), .val (.int p4), .val (.int p5), .val (.int p6), .val (.int nv), .val (.int sa), .val (.int cp), .val (.ref b8), .unset, .unset] [(.int r13), (.int (0 : Int32)), (.ref b8)])) t → Steps p.tables e below G t := fun t k => K12 t (st13 _ k)
  obtain ⟨cl16, Ar16, qc16, S16, M16, Ha16, Ga16⟩ := id V8
  have hin16 : ¬ ((0 : Int32) < 0 ∨ cl16.slots.size ≤ ((0 : Int32)).toNatClampNeg) := inb_of S16 ⟨by decide, by decide⟩
  obtain ⟨T16, h16, X16, e16, W16, st16⟩ := stC X13 hx hZ e13 Ar16 (j := (0 : Int32)) hin16 (g := (mkF m 46 #[.val (.int p1), .val (.int p2), .val (.int p3), .val (.int p4), .val (.int p5), .val (.int p6), .val (.int nv), .val (.int sa), .val (.int cp), .val (.ref b8), .unset, .unset] [(.int r13), (.int (0 : Int32)), (.ref b8)])) rfl rfl (hb hby at_46)
  have V16 : Arv Z h16 b8 kn8 .char (5 : Int32) [(.int (nar .char r13)), (.int (0 : Int32)), (.int (0 : Int32)), (.int (0 : Int32)), (.int (0 : Int32))] (.int (0 : Int32)) := Arv.set Ar16 qc16 S16 M16 Ha16 Ga16 (fits_nar_char _) W16 0 rfl (Nat.le_of_ble_eq_true rfl)
  have K17 : ∀ t, Steps p.tables e below (T16.setTop (mkF m 47 #[.val (.int p1), .val (.int p2), .val (.int p3), .val (.int p4), .val (.int p5), .val (.int p6), .val (.int nv), .val (.int sa), .val (.int cp), .val (.ref b8), .unset, .unset] [])) t → Steps p.tables e below G t := fun t k => K15 t (st16 t k)
  have Z18 : n0 ≤ h16.size := Nat.le_trans Z9 (Keep.of_wr W16).1
  have KP19 : Keep h0 h16 [] := KP10.wr W16 (Or.inr sz_b8)
  have N20 := Fr.snoc X16 N14 g_b8
  have K21 : ∀ t, Steps p.tables e below (T16.setTop (mkF m 51 #[.val (.int p1), .val (.int p2), .val (.int p3), .val (.int p4), .val (.int p5), .val (.int p6), .val (.int nv), .val (.int sa), .val (.int cp), .val (.ref b8), .unset, .unset] [(.int p2), (.int (1 : Int32)), (.ref b8)])) t → Steps p.tables e below G t := by
    intro t k
    refine K17 t ?_
    show Steps p.tables e below (T16.setTop (mkF m 47 #[.val (.int p1), .val (.int p2), .val (.int p3), .val (.int p4), .val (.int p5), .val (.int p6), .val (.int nv), .val (.int sa), .val (.int cp), .val (.ref b8), .unset, .unset] [])) _
    refine XS.aload X16.here hx rfl (hb hby at_47) rfl rfl ?_
    show Steps p.tables e below (T16.setTop (mkF m 49 #[.val (.int p1), .val (.int p2), .val (.int p3), .val (.int p4), .val (.int p5), .val (.int p6), .val (.int nv), .val (.int sa), .val (.int cp), .val (.ref b8), .unset, .unset] [(.ref b8)])) _
    refine XS.iconst X16.here hx rfl (hb hby at_49) ?_
    show Steps p.tables e below (T16.setTop (mkF m 50 #[.val (.int p1), .val (.int p2), .val (.int p3), .val (.int p4), .val (.int p5), .val (.int p6), .val (.int nv), .val (.int sa), .val (.int cp), .val (.ref b8), .unset, .unset] [(.int (1 : Int32)), (.ref b8)])) _
    refine XS.iloadN X16.here hx rfl (hb hby at_50) rfl ?_
    show Steps p.tables e below (T16.setTop (mkF m 51 #[.val (.int p1), .val (.int p2), .val (.int p3), .val (.int p4), .val (.int p5), .val (.int p6), .val (.int nv), .val (.int sa), .val (.int cp), .val (.ref b8), .unset, .unset] [(.int p2), (.int (1 : Int32)), (.ref b8)])) _
    exact k
  obtain ⟨_, _, ⟨T22, L22, kk22, nn22⟩, -, X22, ⟨Lc22, hQ22, lq22, yq22, zq22⟩, st22⟩ := Jvm.LawKit.callS X16 hx (y := (⟨"org/arborlog/pattern/LineTextCodePointCountPinLaw", "draw", "(I)C"⟩ : MethodName)) hown (mvT hZ (hw _ (List.mem_of_getElem? (i := 1) rfl))) (mvT hZ (hw _ (List.mem_of_getElem? (i := 2) rfl))) (mvT hZ (hw _ (List.mem_of_getElem? (i := 3) rfl))) (mvT hZ (hw _ (List.mem_of_getElem? (i := 4) rfl))) (by decide) (backOf (W := 2) (rm1 l Z a0 hw [] p2 h16 n0 Z18) hZ (hw _ (List.mem_of_getElem? (i := 4) rfl)) (hw _ (List.mem_of_getElem? (i := 3) rfl)) (by decide) (by decide)) (g := (mkF m 51 #[.val (.int p1), .val (.int p2), .val (.int p3), .val (.int p4), .val (.int p5), .val (.int p6), .val (.int nv), .val (.int sa), .val (.int cp), .val (.ref b8), .unset, .unset] [(.int p2), (.int (1 : Int32)), (.ref b8)])) rfl (by rw [hml]; rfl) (argsL := [(.int p2)]) (rest := [(.int (1 : Int32)), (.ref b8)]) (lenOf pd_7 rfl) rfl (by show 2 * 0 + _ ≤ _; exact Nat.le_of_eq rfl) (hb hby at_51) (fun _ _ => ⟨rfl, e16, (by decide : 1 + 0 ≤ _), (by decide : 5 + 0 ≤ _)⟩)
  dsimp only [Pt.U, Pt.locs, Pt.cells, Pt.slots] at X22 lq22 yq22 zq22 st22 hQ22
  subst lq22 yq22 zq22
  obtain ⟨r22, rfl, Nq22, e22⟩ := hQ22
  have N23 := Fr.app N20 Nq22
  have K24 : ∀ t, Steps p.tables e below (T22.setTop (mkF m 54 #[.val (.int p1), .val (.int p2), .val (.int p3), .val (.int p4), .val (.int p5), .val (.int p6), .val (.int nv), .val (.int sa), .val (.int cp), .val (.ref b8), .unset, .unset] [(.int r22), (.int (1 : Int32)), (.ref b8)])) t → Steps p.tables e below G t := fun t k => K21 t (st22 _ k)
  obtain ⟨cl25, Ar25, qc25, S25, M25, Ha25, Ga25⟩ := id V16
  have hin25 : ¬ ((1 : Int32) < 0 ∨ cl25.slots.size ≤ ((1 : Int32)).toNatClampNeg) := inb_of S25 ⟨by decide, by decide⟩
  obtain ⟨T25, h25, X25, e25, W25, st25⟩ := stC X22 hx hZ e22 Ar25 (j := (1 : Int32)) hin25 (g := (mkF m 54 #[.val (.int p1), .val (.int p2), .val (.int p3), .val (.int p4), .val (.int p5), .val (.int p6), .val (.int nv), .val (.int sa), .val (.int cp), .val (.ref b8), .unset, .unset] [(.int r22), (.int (1 : Int32)), (.ref b8)])) rfl rfl (hb hby at_54)
  have V25 : Arv Z h25 b8 kn8 .char (5 : Int32) [(.int (nar .char r13)), (.int (nar .char r22)), (.int (0 : Int32)), (.int (0 : Int32)), (.int (0 : Int32))] (.int (0 : Int32)) := Arv.set Ar25 qc25 S25 M25 Ha25 Ga25 (fits_nar_char _) W25 1 rfl (Nat.le_of_ble_eq_true rfl)
  have K26 : ∀ t, Steps p.tables e below (T25.setTop (mkF m 55 #[.val (.int p1), .val (.int p2), .val (.int p3), .val (.int p4), .val (.int p5), .val (.int p6), .val (.int nv), .val (.int sa), .val (.int cp), .val (.ref b8), .unset, .unset] [])) t → Steps p.tables e below G t := fun t k => K24 t (st25 t k)
  have Z27 : n0 ≤ h25.size := Nat.le_trans Z18 (Keep.of_wr W25).1
  have KP28 : Keep h0 h25 [] := KP19.wr W25 (Or.inr sz_b8)
  have N29 := Fr.snoc X25 N23 g_b8
  have K30 : ∀ t, Steps p.tables e below (T25.setTop (mkF m 59 #[.val (.int p1), .val (.int p2), .val (.int p3), .val (.int p4), .val (.int p5), .val (.int p6), .val (.int nv), .val (.int sa), .val (.int cp), .val (.ref b8), .unset, .unset] [(.int p3), (.int (2 : Int32)), (.ref b8)])) t → Steps p.tables e below G t := by
    intro t k
    refine K26 t ?_
    show Steps p.tables e below (T25.setTop (mkF m 55 #[.val (.int p1), .val (.int p2), .val (.int p3), .val (.int p4), .val (.int p5), .val (.int p6), .val (.int nv), .val (.int sa), .val (.int cp), .val (.ref b8), .unset, .unset] [])) _
    refine XS.aload X25.here hx rfl (hb hby at_55) rfl rfl ?_
    show Steps p.tables e below (T25.setTop (mkF m 57 #[.val (.int p1), .val (.int p2), .val (.int p3), .val (.int p4), .val (.int p5), .val (.int p6), .val (.int nv), .val (.int sa), .val (.int cp), .val (.ref b8), .unset, .unset] [(.ref b8)])) _
    refine XS.iconst X25.here hx rfl (hb hby at_57) ?_
    show Steps p.tables e below (T25.setTop (mkF m 58 #[.val (.int p1), .val (.int p2), .val (.int p3), .val (.int p4), .val (.int p5), .val (.int p6), .val (.int nv), .val (.int sa), .val (.int cp), .val (.ref b8), .unset, .unset] [(.int (2 : Int32)), (.ref b8)])) _
    refine XS.iloadN X25.here hx rfl (hb hby at_58) rfl ?_
    show Steps p.tables e below (T25.setTop (mkF m 59 #[.val (.int p1), .val (.int p2), .val (.int p3), .val (.int p4), .val (.int p5), .val (.int p6), .val (.int nv), .val (.int sa), .val (.int cp), .val (.ref b8), .unset, .unset] [(.int p3), (.int (2 : Int32)), (.ref b8)])) _
    exact k
  obtain ⟨_, _, ⟨T31, L31, kk31, nn31⟩, -, X31, ⟨Lc31, hQ31, lq31, yq31, zq31⟩, st31⟩ := Jvm.LawKit.callS X25 hx (y := (⟨"org/arborlog/pattern/LineTextCodePointCountPinLaw", "draw", "(I)C"⟩ : MethodName)) hown (mvT hZ (hw _ (List.mem_of_getElem? (i := 1) rfl))) (mvT hZ (hw _ (List.mem_of_getElem? (i := 2) rfl))) (mvT hZ (hw _ (List.mem_of_getElem? (i := 3) rfl))) (mvT hZ (hw _ (List.mem_of_getElem? (i := 4) rfl))) (by decide) (backOf (W := 2) (rm1 l Z a0 hw [] p3 h25 n0 Z27) hZ (hw _ (List.mem_of_getElem? (i := 4) rfl)) (hw _ (List.mem_of_getElem? (i := 3) rfl)) (by decide) (by decide)) (g := (mkF m 59 #[.val (.int p1), .val (.int p2), .val (.int p3), .val (.int p4), .val (.int p5), .val (.int p6), .val (.int nv), .val (.int sa), .val (.int cp), .val (.ref b8), .unset, .unset] [(.int p3), (.int (2 : Int32)), (.ref b8)])) rfl (by rw [hml]; rfl) (argsL := [(.int p3)]) (rest := [(.int (2 : Int32)), (.ref b8)]) (lenOf pd_7 rfl) rfl (by show 2 * 0 + _ ≤ _; exact Nat.le_of_eq rfl) (hb hby at_59) (fun _ _ => ⟨rfl, e25, (by decide : 1 + 0 ≤ _), (by decide : 5 + 0 ≤ _)⟩)
  dsimp only [Pt.U, Pt.locs, Pt.cells, Pt.slots] at X31 lq31 yq31 zq31 st31 hQ31
  subst lq31 yq31 zq31
  obtain ⟨r31, rfl, Nq31, e31⟩ := hQ31
  have N32 := Fr.app N29 Nq31
  have K33 : ∀ t, Steps p.tables e below (T31.setTop (mkF m 62 #[.val (.int p1), .val (.int p2), .val (.int p3), .val (.int p4), .val (.int p5), .val (.int p6), .val (.int nv), .val (.int sa), .val (.int cp), .val (.ref b8), .unset, .unset] [(.int r31), (.int (2 : Int32)), (.ref b8)])) t → Steps p.tables e below G t := fun t k => K30 t (st31 _ k)
  obtain ⟨cl34, Ar34, qc34, S34, M34, Ha34, Ga34⟩ := id V25
  have hin34 : ¬ ((2 : Int32) < 0 ∨ cl34.slots.size ≤ ((2 : Int32)).toNatClampNeg) := inb_of S34 ⟨by decide, by decide⟩
  obtain ⟨T34, h34, X34, e34, W34, st34⟩ := stC X31 hx hZ e31 Ar34 (j := (2 : Int32)) hin34 (g := (mkF m 62 #[.val (.int p1), .val (.int p2), .val (.int p3), .val (.int p4), .val (.int p5), .val (.int p6), .val (.int nv), .val (.int sa), .val (.int cp), .val (.ref b8), .unset, .unset] [(.int r31), (.int (2 : Int32)), (.ref b8)])) rfl rfl (hb hby at_62)
  have V34 : Arv Z h34 b8 kn8 .char (5 : Int32) [(.int (nar .char r13)), (.int (nar .char r22)), (.int (nar .char r31)), (.int (0 : Int32)), (.int (0 : Int32))] (.int (0 : Int32)) := Arv.set Ar34 qc34 S34 M34 Ha34 Ga34 (fits_nar_char _) W34 2 rfl (Nat.le_of_ble_eq_true rfl)
  have K35 : ∀ t, Steps p.tables e below (T34.setTop (mkF m 63 #[.val (.int p1), .val (.int p2), .val (.int p3), .val (.int p4), .val (.int p5), .val (.int p6), .val (.int nv), .val (.int sa), .val (.int cp), .val (.ref b8), .unset, .unset] [])) t → Steps p.tables e below G t := fun t k => K33 t (st34 t k)
  have Z36 : n0 ≤ h34.size := Nat.le_trans Z27 (Keep.of_wr W34).1
  have KP37 : Keep h0 h34 [] := KP28.wr W34 (Or.inr sz_b8)
  have N38 := Fr.snoc X34 N32 g_b8
  have K39 : ∀ t, Steps p.tables e below (T34.setTop (mkF m 67 #[.val (.int p1), .val (.int p2), .val (.int p3), .val (.int p4), .val (.int p5), .val (.int p6), .val (.int nv), .val (.int sa), .val (.int cp), .val (.ref b8), .unset, .unset] [(.int p4), (.int (3 : Int32)), (.ref b8)])) t → Steps p.tables e below G t := by
    intro t k
    refine K35 t ?_
    show Steps p.tables e below (T34.setTop (mkF m 63 #[.val (.int p1), .val (.int p2), .val (.int p3), .val (.int p4), .val (.int p5), .val (.int p6), .val (.int nv), .val (.int sa), .val (.int cp), .val (.ref b8), .unset, .unset] [])) _
    refine XS.aload X34.here hx rfl (hb hby at_63) rfl rfl ?_
    show Steps p.tables e below (T34.setTop (mkF m 65 #[.val (.int p1), .val (.int p2), .val (.int p3), .val (.int p4), .val (.int p5), .val (.int p6), .val (.int nv), .val (.int sa), .val (.int cp), .val (.ref b8), .unset, .unset] [(.ref b8)])) _
    refine XS.iconst X34.here hx rfl (hb hby at_65) ?_
    show Steps p.tables e below (T34.setTop (mkF m 66 #[.val (.int p1), .val (.int p2), .val (.int p3), .val (.int p4), .val (.int p5), .val (.int p6), .val (.int nv), .val (.int sa), .val (.int cp), .val (.ref b8), .unset, .unset] [(.int (3 : Int32)), (.ref b8)])) _
    refine XS.iloadN X34.here hx rfl (hb hby at_66) rfl ?_
    show Steps p.tables e below (T34.setTop (mkF m 67 #[.val (.int p1), .val (.int p2), .val (.int p3), .val (.int p4), .val (.int p5), .val (.int p6), .val (.int nv), .val (.int sa), .val (.int cp), .val (.ref b8), .unset, .unset] [(.int p4), (.int (3 : Int32)), (.ref b8)])) _
    exact k
  obtain ⟨_, _, ⟨T40, L40, kk40, nn40⟩, -, X40, ⟨Lc40, hQ40, lq40, yq40, zq40⟩, st40⟩ := Jvm.LawKit.callS X34 hx (y := (⟨"org/arborlog/pattern/LineTextCodePointCountPinLaw", "draw", "(I)C"⟩ : MethodName)) hown (mvT hZ (hw _ (List.mem_of_getElem? (i := 1) rfl))) (mvT hZ (hw _ (List.mem_of_getElem? (i := 2) rfl))) (mvT hZ (hw _ (List.mem_of_getElem? (i := 3) rfl))) (mvT hZ (hw _ (List.mem_of_getElem? (i := 4) rfl))) (by decide) (backOf (W := 2) (rm1 l Z a0 hw [] p4 h34 n0 Z36) hZ (hw _ (List.mem_of_getElem? (i := 4) rfl)) (hw _ (List.mem_of_getElem? (i := 3) rfl)) (by decide) (by decide)) (g := (mkF m 67 #[.val (.int p1), .val (.int p2), .val (.int p3), .val (.int p4), .val (.int p5), .val (.int p6), .val (.int nv), .val (.int sa), .val (.int cp), .val (.ref b8), .unset, .unset] [(.int p4), (.int (3 : Int32)), (.ref b8)])) rfl (by rw [hml]; rfl) (argsL := [(.int p4)]) (rest := [(.int (3 : Int32)), (.ref b8)]) (lenOf pd_7 rfl) rfl (by show 2 * 0 + _ ≤ _; exact Nat.le_of_eq rfl) (hb hby at_67) (fun _ _ => ⟨rfl, e34, (by decide : 1 + 0 ≤ _), (by decide : 5 + 0 ≤ _)⟩)
  dsimp only [Pt.U, Pt.locs, Pt.cells, Pt.slots] at X40 lq40 yq40 zq40 st40 hQ40
  subst lq40 yq40 zq40
  obtain ⟨r40, rfl, Nq40, e40⟩ := hQ40
  have N41 := Fr.app N38 Nq40
  have K42 : ∀ t, Steps p.tables e below (T40.setTop (mkF m 70 #[.val (.int p1), .val (.int p2), .val (.int p3), .val (.int p4), .val (.int p5), .val (.int p6), .val (.int nv), .val (.int sa), .val (.int cp), .val (.ref b8), .unset, .unset] [(.int r40), (.int (3 : Int32)), (.ref b8)])) t → Steps p.tables e below G t := fun t k => K39 t (st40 _ k)
  obtain ⟨cl43, Ar43, qc43, S43, M43, Ha43, Ga43⟩ := id V34
  have hin43 : ¬ ((3 : Int32) < 0 ∨ cl43.slots.size ≤ ((3 : Int32)).toNatClampNeg) := inb_of S43 ⟨by decide, by decide⟩
  obtain ⟨T43, h43, X43, e43, W43, st43⟩ := stC X40 hx hZ e40 Ar43 (j := (3 : Int32)) hin43 (g := (mkF m 70 #[.val (.int p1), .val (.int p2), .val (.int p3), .val (.int p4), .val (.int p5), .val (.int p6), .val (.int nv), .val (.int sa), .val (.int cp), .val (.ref b8), .unset, .unset] [(.int r40), (.int (3 : Int32)), (.ref b8)])) rfl rfl (hb hby at_70)
  have V43 : Arv Z h43 b8 kn8 .char (5 : Int32) [(.int (nar .char r13)), (.int (nar .char r22)), (.int (nar .char r31)), (.int (nar .char r40)), (.int (0 : Int32))] (.int (0 : Int32)) := Arv.set Ar43 qc43 S43 M43 Ha43 Ga43 (fits_nar_char _) W43 3 rfl (Nat.le_of_ble_eq_true rfl)
  have K44 : ∀ t, Steps p.tables e below (T43.setTop (mkF m 71 #[.val (.int p1), .val (.int p2), .val (.int p3), .val (.int p4), .val (.int p5), .val (.int p6), .val (.int nv), .val (.int sa), .val (.int cp), .val (.ref b8), .unset, .unset] [])) t → Steps p.tables e below G t := fun t k => K42 t (st43 t k)
  have Z45 : n0 ≤ h43.size := Nat.le_trans Z36 (Keep.of_wr W43).1
  have KP46 : Keep h0 h43 [] := KP37.wr W43 (Or.inr sz_b8)
  have N47 := Fr.snoc X43 N41 g_b8
  have K48 : ∀ t, Steps p.tables e below (T43.setTop (mkF m 76 #[.val (.int p1), .val (.int p2), .val (.int p3), .val (.int p4), .val (.int p5), .val (.int p6), .val (.int nv), .val (.int sa), .val (.int cp), .val (.ref b8), .unset, .unset] [(.int p5), (.int (4 : Int32)), (.ref b8)])) t → Steps p.tables e below G t := by
    intro t k
    refine K44 t ?_
    show Steps p.tables e below (T43.setTop (mkF m 71 #[.val (.int p1), .val (.int p2), .val (.int p3), .val (.int p4), .val (.int p5), .val (.int p6), .val (.int nv), .val (.int sa), .val (.int cp), .val (.ref b8), .unset, .unset] [])) _
    refine XS.aload X43.here hx rfl (hb hby at_71) rfl rfl ?_
    show Steps p.tables e below (T43.setTop (mkF m 73 #[.val (.int p1), .val (.int p2), .val (.int p3), .val (.int p4), .val (.int p5), .val (.int p6), .val (.int nv), .val (.int sa), .val (.int cp), .val (.ref b8), .unset, .unset] [(.ref b8)])) _
    refine XS.iconst X43.here hx rfl (hb hby at_73) ?_
    show Steps p.tables e below (T43.setTop (mkF m 74 #[.val (.int p1), .val (.int p2), .val (.int p3), .val (.int p4), .val (.int p5), .val (.int p6), .val (.int nv), .val (.int sa), .val (.int cp), .val (.ref b8), .unset, .unset] [(.int (4 : Int32)), (.ref b8)])) _
    refine XS.iload X43.here hx rfl (hb hby at_74) rfl ?_
    show Steps p.tables e below (T43.setTop (mkF m 76 #[.val (.int p1), .val (.int p2), .val (.int p3), .val (.int p4), .val (.int p5), .val (.int p6), .val (.int nv), .val (.int sa), .val (.int cp), .val (.ref b8), .unset, .unset] [(.int p5), (.int (4 : Int32)), (.ref b8)])) _
    exact k
  obtain ⟨_, _, ⟨T49, L49, kk49, nn49⟩, -, X49, ⟨Lc49, hQ49, lq49, yq49, zq49⟩, st49⟩ := Jvm.LawKit.callS X43 hx (y := (⟨"org/arborlog/pattern/LineTextCodePointCountPinLaw", "draw", "(I)C"⟩ : MethodName)) hown (mvT hZ (hw _ (List.mem_of_getElem? (i := 1) rfl))) (mvT hZ (hw _ (List.mem_of_getElem? (i := 2) rfl))) (mvT hZ (hw _ (List.mem_of_getElem? (i := 3) rfl))) (mvT hZ (hw _ (List.mem_of_getElem? (i := 4) rfl))) (by decide) (backOf (W := 2) (rm1 l Z a0 hw [] p5 h43 n0 Z45) hZ (hw _ (List.mem_of_getElem? (i := 4) rfl)) (hw _ (List.mem_of_getElem? (i := 3) rfl)) (by decide) (by decide)) (g := (mkF m 76 #[.val (.int p1), .val (.int p2), .val (.int p3), .val (.int p4), .val (.int p5), .val (.int p6), .val (.int nv), .val (.int sa), .val (.int cp), .val (.ref b8), .unset, .unset] [(.int p5), (.int (4 : Int32)), (.ref b8)])) rfl (by rw [hml]; rfl) (argsL := [(.int p5)]) (rest := [(.int (4 : Int32)), (.ref b8)]) (lenOf pd_7 rfl) rfl (by show 2 * 0 + _ ≤ _; exact Nat.le_of_eq rfl) (hb hby at_76) (fun _ _ => ⟨rfl, e43, (by decide : 1 + 0 ≤ _), (by decide : 5 + 0 ≤ _)⟩)
  dsimp only [Pt.U, Pt.locs, Pt.cells, Pt.slots] at X49 lq49 yq49 zq49 st49 hQ49
  subst lq49 yq49 zq49
  obtain ⟨r49, rfl, Nq49, e49⟩ := hQ49
  have N50 := Fr.app N47 Nq49
  have K51 : ∀ t, Steps p.tables e below (T49.setTop (mkF m 79 #[.val (.int p1), .val (.int p2), .val (.int p3), .val (.int p4), .val (.int p5), .val (.int p6), .val (.int nv), .val (.int sa), .val (.int cp), .val (.ref b8), .unset, .unset] [(.int r49), (.int (4 : Int32)), (.ref b8)])) t → Steps p.tables e below G t := fun t k => K48 t (st49 _ k)
  obtain ⟨cl52, Ar52, qc52, S52, M52, Ha52, Ga52⟩ := id V43
  have hin52 : ¬ ((4 : Int32) < 0 ∨ cl52.slots.size ≤ ((4 : Int32)).toNatClampNeg) := inb_of S52 ⟨by decide, by decide⟩
  obtain ⟨T52, h52, X52, e52, W52, st52⟩ := stC X49 hx hZ e49 Ar52 (j := (4 : Int32)) hin52 (g := (mkF m 79 #[.val (.int p1), .val (.int p2), .val (.int p3), .val (.int p4), .val (.int p5), .val (.int p6), .val (.int nv), .val (.int sa), .val (.int cp), .val (.ref b8), .unset, .unset] [(.int r49), (.int (4 : Int32)), (.ref b8)])) rfl rfl (hb hby at_79)
  have V52 : Arv Z h52 b8 kn8 .char (5 : Int32) [(.int (nar .char r13)), (.int (nar .char r22)), (.int (nar .char r31)), (.int (nar .char r40)), (.int (nar .char r49))] (.int (0 : Int32)) := Arv.set Ar52 qc52 S52 M52 Ha52 Ga52 (fits_nar_char _) W52 4 rfl (Nat.le_of_ble_eq_true rfl)
  have K53 : ∀ t, Steps p.tables e below (T52.setTop (mkF m 80 #[.val (.int p1), .val (.int p2), .val (.int p3), .val (.int p4), .val (.int p5), .val (.int p6), .val (.int nv), .val (.int sa), .val (.int cp), .val (.ref b8), .unset, .unset] [])) t → Steps p.tables e below G t := fun t k => K51 t (st52 t k)
  have Z54 : n0 ≤ h52.size := Nat.le_trans Z45 (Keep.of_wr W52).1
  have KP55 : Keep h0 h52 [] := KP46.wr W52 (Or.inr sz_b8)
  have N56 := Fr.snoc X52 N50 g_b8
  obtain ⟨T57, h57, X57, e57, E57, A57, D57, -, st57⟩ := newO X52 hx hZ hown (hw _ (List.mem_of_getElem? (i := 8) rfl)) (hw _ (List.mem_of_getElem? (i := 9) rfl)) (hw _ (List.mem_of_getElem? (i := 10) rfl)) e52 (g := (mkF m 80 #[.val (.int p1), .val (.int p2), .val (.int p3), .val (.int p4), .val (.int p5), .val (.int p6), .val (.int nv), .val (.int sa), .val (.int cp), .val (.ref b8), .unset, .unset] [])) rfl (hb hby at_80) (by decide) (by decide)
  obtain ⟨b57, g57⟩ : ∃ z, z = h52.size := ⟨_, rfl⟩
  rw [← g57] at A57 D57 st57
  have ne_b8_b57 : b8 ≠ b57 := Nat.ne_of_lt (Nat.lt_of_lt_of_le V52.lt (Nat.le_of_eq g57.symm))
  have g_b57 : n0 ≤ b57 := Nat.le_trans Z54 (Nat.le_of_eq g57.symm)
  have sz_b57 : h0.size ≤ b57 := Nat.le_trans KP55.1 (Nat.le_of_eq g57.symm)
  have f58 := V52.ext E57
  have Z59 : n0 ≤ h57.size := Nat.le_trans Z54 E57.1
  have KP60 : Keep h0 h57 [] := KP55.ext E57
  have K61 : ∀ t, Steps p.tables e below (T57.setTop (mkF m 83 #[.val (.int p1), .val (.int p2), .val (.int p3), .val (.int p4), .val (.int p5), .val (.int p6), .val (.int nv), .val (.int sa), .val (.int cp), .val (.ref b8), .unset, .unset] [(.ref b57)])) t → Steps p.tables e below G t := fun t k => K53 t (st57 t k)
  have f62 : Fld Z h57 b57 "org/arborlog/pattern/LineText" "chars" "[C" .null := D57 (Or.inl (hw _ (List.mem_of_getElem? (i := 18) rfl))) (ty := (.array .char)) (by decide)
  have f63 : Fld Z h57 b57 "org/arborlog/pattern/LineText" "length" "I" (.int (0 : Int32)) := D57 (Or.inl (hw _ (List.mem_of_getElem? (i := 25) rfl))) (ty := .int) (by decide)
  have K64 : ∀ t, Steps p.tables e below (T57.setTop (mkF m 86 #[.val (.int p1), .val (.int p2), .val (.int p3), .val (.int p4), .val (.int p5), .val (.int p6), .val (.int nv), .val (.int sa), .val (.int cp), .val (.ref b8), .unset, .unset] [(.int cp), (.ref b57), (.ref b57)])) t → Steps p.tables e below G t := by
    intro t k
    refine K61 t ?_
    show Steps p.tables e below (T57.setTop (mkF m 83 #[.val (.int p1), .val (.int p2), .val (.int p3), .val (.int p4), .val (.int p5), .val (.int p6), .val (.int nv), .val (.int sa), .val (.int cp), .val (.ref b8), .unset, .unset] [(.ref b57)])) _
    refine XS.dup X57.here hx rfl (hb hby at_83) rfl rfl ?_
    show Steps p.tables e below (T57.setTop (mkF m 84 #[.val (.int p1), .val (.int p2), .val (.int p3), .val (.int p4), .val (.int p5), .val (.int p6), .val (.int nv), .val (.int sa), .val (.int cp), .val (.ref b8), .unset, .unset] [(.ref b57), (.ref b57)])) _
    refine XS.iload X57.here hx rfl (hb hby at_84) rfl ?_
    show Steps p.tables e below (T57.setTop (mkF m 86 #[.val (.int p1), .val (.int p2), .val (.int p3), .val (.int p4), .val (.int p5), .val (.int p6), .val (.int nv), .val (.int sa), .val (.int cp), .val (.ref b8), .unset, .unset] [(.int cp), (.ref b57), (.ref b57)])) _
    exact k
  obtain ⟨_, _, ⟨T65, L65, kk65, nn65⟩, -, X65, ⟨Lc65, hQ65, lq65, yq65, zq65⟩, st65⟩ := X57.specialBack hx (y := (⟨"org/arborlog/pattern/LineText", "<init>", "(I)V"⟩ : MethodName)) rfl hown (mvT hZ (hw _ (List.mem_of_getElem? (i := 11) rfl))) (mvT hZ (hw _ (List.mem_of_getElem? (i := 12) rfl))) (mvT hZ (hw _ (List.mem_of_getElem? (i := 13) rfl))) (by decide) (backOf (W := 1) (rm2 l Z a0 hw [] b57 cp h57 n0 Z59 A57 f62 f63 g_b57 hc7.1 hc7.2.1) hZ (hw _ (List.mem_of_getElem? (i := 13) rfl)) (hw _ (List.mem_of_getElem? (i := 10) rfl)) (by decide) (by decide)) (g := (mkF m 86 #[.val (.int p1), .val (.int p2), .val (.int p3), .val (.int p4), .val (.int p5), .val (.int p6), .val (.int nv), .val (.int sa), .val (.int cp), .val (.ref b8), .unset, .unset] [(.int cp), (.ref b57), (.ref b57)])) rfl (by rw [hml]; rfl) (Steps.refl _) (a := b57) (argsL := [(.int cp)]) (rest := [(.ref b57)]) (lenOf pd_2 rfl) rfl (by show 2 * 0 + _ ≤ _; exact Nat.le_of_eq rfl) (hb hby at_86) (fun _ _ => ⟨rfl, e57, (by decide : 2 + 1 ≤ _), (by decide : 7 + 8 ≤ _)⟩)
  dsimp only [Pt.U, Pt.locs, Pt.cells, Pt.slots] at X65 lq65 yq65 zq65 st65 hQ65
  subst lq65 yq65 zq65
  obtain ⟨b65, kb65, rfl, Nq65, K65, sz65, E65', Fc65, Fl65, Vb65⟩ := hQ65
  have N66 := Fr.app N56 Nq65
  have ne_b8_b65 : b8 ≠ b65 := Nat.ne_of_lt (Nat.lt_of_lt_of_le f58.lt sz65)
  have ne_b57_b65 : b57 ≠ b65 := Nat.ne_of_lt (Nat.lt_of_lt_of_le A57.lt sz65)
  have g_b65 : n0 ≤ b65 := Nat.le_trans Z59 sz65
  have sz_b65 : h0.size ≤ b65 := Nat.le_trans KP60.1 sz65
  have f67 := f58.keep K65 (ninS ne_b8_b57 nin0)
  have f68 := A57.keep K65
  have Z69 : n0 ≤ T65.heap.size := Nat.le_trans Z59 K65.1
  have KP70 : Keep h0 T65.heap [] := KP60.trans K65 (allS (Or.inr sz_b57) all0)
  have K71 : ∀ t, Steps p.tables e below (T65.setTop (mkF m 89 #[.val (.int p1), .val (.int p2), .val (.int p3), .val (.int p4), .val (.int p5), .val (.int p6), .val (.int nv), .val (.int sa), .val (.int cp), .val (.ref b8), .unset, .unset] [(.ref b57)])) t → Steps p.tables e below G t := fun t k => K64 t (st65.trans k)
  have K72 : ∀ t, Steps p.tables e below (T65.setTop (mkF m 91 #[.val (.int p1), .val (.int p2), .val (.int p3), .val (.int p4), .val (.int p5), .val (.int p6), .val (.int nv), .val (.int sa), .val (.int cp), .val (.ref b8), .val (.ref b57), .unset] [])) t → Steps p.tables e below G t := by
    intro t k
    refine K71 t ?_
    show Steps p.tables e below (T65.setTop (mkF m 89 #[.val (.int p1), .val (.int p2), .val (.int p3), .val (.int p4), .val (.int p5), .val (.int p6), .val (.int nv), .val (.int sa), .val (.int cp), .val (.ref b8), .unset, .unset] [(.ref b57)])) _
    refine XS.astore X65.here hx rfl (hb hby at_89) rfl rfl (l' := #[.val (.int p1), .val (.int p2), .val (.int p3), .val (.int p4), .val (.int p5), .val (.int p6), .val (.int nv), .val (.int sa), .val (.int cp), .val (.ref b8), .val (.ref b57), .unset]) rfl ?_
    show Steps p.tables e below (T65.setTop (mkF m 91 #[.val (.int p1), .val (.int p2), .val (.int p3), .val (.int p4), .val (.int p5), .val (.int p6), .val (.int nv), .val (.int sa), .val (.int cp), .val (.ref b8), .val (.ref b57), .unset] [])) _
    exact k
  rcases own_n6 hn5 with rfl | rfl | rfl | rfl | rfl | rfl
  · have K73 : ∀ t, Steps p.tables e below (T65.setTop (mkF m 177 #[.val (.int p1), .val (.int p2), .val (.int p3), .val (.int p4), .val (.int p5), .val (.int p6), .val (.int (0 : Int32)), .val (.int sa), .val (.int cp), .val (.ref b8), .val (.ref b57), .unset] [(.int (0 : Int32)), (.int sa), (.int (0 : Int32)), (.ref b8)])) t → Steps p.tables e below G t := by
      intro t k
      refine K72 t ?_
      show Steps p.tables e below (T65.setTop (mkF m 91 #[.val (.int p1), .val (.int p2), .val (.int p3), .val (.int p4), .val (.int p5), .val (.int p6), .val (.int (0 : Int32)), .val (.int sa), .val (.int cp), .val (.ref b8), .val (.ref b57), .unset] [])) _
      refine XS.iload X65.here hx rfl (hb hby at_91) rfl ?_
      show Steps p.tables e below (T65.setTop (mkF m 93 #[.val (.int p1), .val (.int p2), .val (.int p3), .val (.int p4), .val (.int p5), .val (.int p6), .val (.int (0 : Int32)), .val (.int sa), .val (.int cp), .val (.ref b8), .val (.ref b57), .unset] [(.int (0 : Int32))])) _
      refine XS.ifYes X65.here hx rfl (pc0 := 93) (pc' := 106) rfl (hb hby at_93) rfl ((if0 _ _).trans (flt (by decide)).2.2.2) (by decide) (by decide) ?_
      show Steps p.tables e below (T65.setTop (mkF m 106 #[.val (.int p1), .val (.int p2), .val (.int p3), .val (.int p4), .val (.int p5), .val (.int p6), .val (.int (0 : Int32)), .val (.int sa), .val (.int cp), .val (.ref b8), .val (.ref b57), .unset] [])) _
      refine XS.iload X65.here hx rfl (hb hby at_106) rfl ?_
      show Steps p.tables e below (T65.setTop (mkF m 108 #[.val (.int p1), .val (.int p2), .val (.int p3), .val (.int p4), .val (.int p5), .val (.int p6), .val (.int (0 : Int32)), .val (.int sa), .val (.int cp), .val (.ref b8), .val (.ref b57), .unset] [(.int (0 : Int32))])) _
      refine XS.iconst X65.here hx rfl (hb hby at_108) ?_
      show Steps p.tables e below (T65.setTop (mkF m 109 #[.val (.int p1), .val (.int p2), .val (.int p3), .val (.int p4), .val (.int p5), .val (.int p6), .val (.int (0 : Int32)), .val (.int sa), .val (.int cp), .val (.ref b8), .val (.ref b57), .unset] [(.int (1 : Int32)), (.int (0 : Int32))])) _
      refine XS.icmpYes X65.here hx rfl (pc0 := 109) (pc' := 122) rfl (hb hby at_109) rfl (flt (by decide)).2.2.2 (by decide) (by decide) ?_
      show Steps p.tables e below (T65.setTop (mkF m 122 #[.val (.int p1), .val (.int p2), .val (.int p3), .val (.int p4), .val (.int p5), .val (.int p6), .val (.int (0 : Int32)), .val (.int sa), .val (.int cp), .val (.ref b8), .val (.ref b57), .unset] [])) _
      refine XS.iload X65.here hx rfl (hb hby at_122) rfl ?_
      show Steps p.tables e below (T65.setTop (mkF m 124 #[.val (.int p1), .val (.int p2), .val (.int p3), .val (.int p4), .val (.int p5), .val (.int p6), .val (.int (0 : Int32)), .val (.int sa), .val (.int cp), .val (.ref b8), .val (.ref b57), .unset] [(.int (0 : Int32))])) _
      refine XS.iconst X65.here hx rfl (hb hby at_124) ?_
      show Steps p.tables e below (T65.setTop (mkF m 125 #[.val (.int p1), .val (.int p2), .val (.int p3), .val (.int p4), .val (.int p5), .val (.int p6), .val (.int (0 : Int32)), .val (.int sa), .val (.int cp), .val (.ref b8), .val (.ref b57), .unset] [(.int (2 : Int32)), (.int (0 : Int32))])) _
      refine XS.icmpYes X65.here hx rfl (pc0 := 125) (pc' := 138) rfl (hb hby at_125) rfl (flt (by decide)).2.2.2 (by decide) (by decide) ?_
      show Steps p.tables e below (T65.setTop (mkF m 138 #[.val (.int p1), .val (.int p2), .val (.int p3), .val (.int p4), .val (.int p5), .val (.int p6), .val (.int (0 : Int32)), .val (.int sa), .val (.int cp), .val (.ref b8), .val (.ref b57), .unset] [])) _
      refine XS.iload X65.here hx rfl (hb hby at_138) rfl ?_
      show Steps p.tables e below (T65.setTop (mkF m 140 #[.val (.int p1), .val (.int p2), .val (.int p3), .val (.int p4), .val (.int p5), .val (.int p6), .val (.int (0 : Int32)), .val (.int sa), .val (.int cp), .val (.ref b8), .val (.ref b57), .unset] [(.int (0 : Int32))])) _
      refine XS.iconst X65.here hx rfl (hb hby at_140) ?_
      show Steps p.tables e below (T65.setTop (mkF m 141 #[.val (.int p1), .val (.int p2), .val (.int p3), .val (.int p4), .val (.int p5), .val (.int p6), .val (.int (0 : Int32)), .val (.int sa), .val (.int cp), .val (.ref b8), .val (.ref b57), .unset] [(.int (3 : Int32)), (.int (0 : Int32))])) _
      refine XS.icmpYes X65.here hx rfl (pc0 := 141) (pc' := 154) rfl (hb hby at_141) rfl (flt (by decide)).2.2.2 (by decide) (by decide) ?_
      show Steps p.tables e below (T65.setTop (mkF m 154 #[.val (.int p1), .val (.int p2), .val (.int p3), .val (.int p4), .val (.int p5), .val (.int p6), .val (.int (0 : Int32)), .val (.int sa), .val (.int cp), .val (.ref b8), .val (.ref b57), .unset] [])) _
      refine XS.iload X65.here hx rfl (hb hby at_154) rfl ?_
      show Steps p.tables e below (T65.setTop (mkF m 156 #[.val (.int p1), .val (.int p2), .val (.int p3), .val (.int p4), .val (.int p5), .val (.int p6), .val (.int (0 : Int32)), .val (.int sa), .val (.int cp), .val (.ref b8), .val (.ref b57), .unset] [(.int (0 : Int32))])) _
      refine XS.iconst X65.here hx rfl (hb hby at_156) ?_
      show Steps p.tables e below (T65.setTop (mkF m 157 #[.val (.int p1), .val (.int p2), .val (.int p3), .val (.int p4), .val (.int p5), .val (.int p6), .val (.int (0 : Int32)), .val (.int sa), .val (.int cp), .val (.ref b8), .val (.ref b57), .unset] [(.int (4 : Int32)), (.int (0 : Int32))])) _
      refine XS.icmpYes X65.here hx rfl (pc0 := 157) (pc' := 170) rfl (hb hby at_157) rfl (flt (by decide)).2.2.2 (by decide) (by decide) ?_
      show Steps p.tables e below (T65.setTop (mkF m 170 #[.val (.int p1), .val (.int p2), .val (.int p3), .val (.int p4), .val (.int p5), .val (.int p6), .val (.int (0 : Int32)), .val (.int sa), .val (.int cp), .val (.ref b8), .val (.ref b57), .unset] [])) _
      refine XS.aload X65.here hx rfl (hb hby at_170) rfl rfl ?_
      show Steps p.tables e below (T65.setTop (mkF m 172 #[.val (.int p1), .val (.int p2), .val (.int p3), .val (.int p4), .val (.int p5), .val (.int p6), .val (.int (0 : Int32)), .val (.int sa), .val (.int cp), .val (.ref b8), .val (.ref b57), .unset] [(.ref b8)])) _
      refine XS.iconst X65.here hx rfl (hb hby at_172) ?_
      show Steps p.tables e below (T65.setTop (mkF m 173 #[.val (.int p1), .val (.int p2), .val (.int p3), .val (.int p4), .val (.int p5), .val (.int p6), .val (.int (0 : Int32)), .val (.int sa), .val (.int cp), .val (.ref b8), .val (.ref b57), .unset] [(.int (0 : Int32)), (.ref b8)])) _
      refine XS.iload X65.here hx rfl (hb hby at_173) rfl ?_
      show Steps p.tables e below (T65.setTop (mkF m 175 #[.val (.int p1), .val (.int p2), .val (.int p3), .val (.int p4), .val (.int p5), .val (.int p6), .val (.int (0 : Int32)), .val (.int sa), .val (.int cp), .val (.ref b8), .val (.ref b57), .unset] [(.int sa), (.int (0 : Int32)), (.ref b8)])) _
      refine XS.iload X65.here hx rfl (hb hby at_175) rfl ?_
      show Steps p.tables e below (T65.setTop (mkF m 177 #[.val (.int p1), .val (.int p2), .val (.int p3), .val (.int p4), .val (.int p5), .val (.int p6), .val (.int (0 : Int32)), .val (.int sa), .val (.int cp), .val (.ref b8), .val (.ref b57), .unset] [(.int (0 : Int32)), (.int sa), (.int (0 : Int32)), (.ref b8)])) _
      exact k
    obtain ⟨_, _, ⟨T74, L74, kk74, nn74⟩, -, X74, ⟨Lc74, hQ74, lq74, yq74, zq74⟩, st74⟩ := Jvm.LawKit.callS X65 hx (y := (⟨"org/arborlog/pattern/LineTextCodePointCountPinLaw", "contrib", "([CIII)I"⟩ : MethodName)) hown (mvT hZ (hw _ (List.mem_of_getElem? (i := 45) rfl))) (mvT hZ (hw _ (List.mem_of_getElem? (i := 46) rfl))) (mvT hZ (hw _ (List.mem_of_getElem? (i := 3) rfl))) (mvT hZ (hw _ (List.mem_of_getElem? (i := 47) rfl))) (by decide) (backOf (W := 0) (rm9 l Z a0 hw [] b8 (0 : Int32) sa (0 : Int32) kn8 [(.int (nar .char r13)), (.int (nar .char r22)), (.int (nar .char r31)), (.int (nar .char r40)), (.int (nar .char r49))] 0 (nar .char r13) T65.heap n0 Z69 f67 (fun q => absurd q hsa0) ⟨⟨by decide, by decide⟩, rfl⟩) hZ (hw _ (List.mem_of_getElem? (i := 47) rfl)) (hw _ (List.mem_of_getElem? (i := 3) rfl)) (by decide) (by decide)) (g := (mkF m 177 #[.val (.int p1), .val (.int p2), .val (.int p3), .val (.int p4), .val (.int p5), .val (.int p6), .val (.int (0 : Int32)), .val (.int sa), .val (.int cp), .val (.ref b8), .val (.ref b57), .unset] [(.int (0 : Int32)), (.int sa), (.int (0 : Int32)), (.ref b8)])) rfl (by rw [hml]; rfl) (argsL := [(.ref b8), (.int (0 : Int32)), (.int sa), (.int (0 : Int32))]) (rest := []) (lenOf pd_8 rfl) rfl (by show 2 * 0 + _ ≤ _; exact Nat.le_of_eq rfl) (hb hby at_177) (fun _ _ => ⟨rfl, rfl, (by decide : 3 + 0 ≤ _), (by decide : 15 + 0 ≤ _)⟩)
    dsimp only [Pt.U, Pt.locs, Pt.cells, Pt.slots] at X74 lq74 yq74 zq74 st74 hQ74
    subst lq74 yq74 zq74
    obtain ⟨rfl, Nq74, e74⟩ := hQ74
    have N75 := Fr.app N66 Nq74
    have K76 : ∀ t, Steps p.tables e below (T74.setTop (mkF m 180 #[.val (.int p1), .val (.int p2), .val (.int p3), .val (.int p4), .val (.int p5), .val (.int p6), .val (.int (0 : Int32)), .val (.int sa), .val (.int cp), .val (.ref b8), .val (.ref b57), .unset] [(.int (own_con (0 : Int32) sa (0 : Int32) 0 (nar .char r13)))])) t → Steps p.tables e below G t := fun t k => K73 t (st74 _ k)
    have K77 : ∀ t, Steps p.tables e below (T74.setTop (mkF m 187 #[.val (.int p1), .val (.int p2), .val (.int p3), .val (.int p4), .val (.int p5), .val (.int p6), .val (.int (0 : Int32)), .val (.int sa), .val (.int cp), .val (.ref b8), .val (.ref b57), .unset] [(.int (0 : Int32)), (.int sa), (.int (1 : Int32)), (.ref b8), (.int (own_con (0 : Int32) sa (0 : Int32) 0 (nar .char r13)))])) t → Steps p.tables e below G t := by
      intro t k
      refine K76 t ?_
      show Steps p.tables e below (T74.setTop (mkF m 180 #[.val (.int p1), .val (.int p2), .val (.int p3), .val (.int p4), .val (.int p5), .val (.int p6), .val (.int (0 : Int32)), .val (.int sa), .val (.int cp), .val (.ref b8), .val (.ref b57), .unset] [(.int (own_con (0 : Int32) sa (0 : Int32) 0 (nar .char r13)))])) _
      refine XS.aload X74.here hx rfl (hb hby at_180) rfl rfl ?_
      show Steps p.tables e below (T74.setTop (mkF m 182 #[.val (.int p1), .val (.int p2), .val (.int p3), .val (.int p4), .val (.int p5), .val (.int p6), .val (.int (0 : Int32)), .val (.int sa), .val (.int cp), .val (.ref b8), .val (.ref b57), .unset] [(.ref b8), (.int (own_con (0 : Int32) sa (0 : Int32) 0 (nar .char r13)))])) _
      refine XS.iconst X74.here hx rfl (hb hby at_182) ?_
      show Steps p.tables e below (T74.setTop (mkF m 183 #[.val (.int p1), .val (.int p2), .val (.int p3), .val (.int p4), .val (.int p5), .val (.int p6), .val (.int (0 : Int32)), .val (.int sa), .val (.int cp), .val (.ref b8), .val (.ref b57), .unset] [(.int (1 : Int32)), (.ref b8), (.int (own_con (0 : Int32) sa (0 : Int32) 0 (nar .char r13)))])) _
      refine XS.iload X74.here hx rfl (hb hby at_183) rfl ?_
      show Steps p.tables e below (T74.setTop (mkF m 185 #[.val (.int p1), .val (.int p2), .val (.int p3), .val (.int p4), .val (.int p5), .val (.int p6), .val (.int (0 : Int32)), .val (.int sa), .val (.int cp), .val (.ref b8), .val (.ref b57), .unset] [(.int sa), (.int (1 : Int32)), (.ref b8), (.int (own_con (0 : Int32) sa (0 : Int32) 0 (nar .char r13)))])) _
      refine XS.iload X74.here hx rfl (hb hby at_185) rfl ?_
      show Steps p.tables e below (T74.setTop (mkF m 187 #[.val (.int p1), .val (.int p2), .val (.int p3), .val (.int p4), .val (.int p5), .val (.int p6), .val (.int (0 : Int32)), .val (.int sa), .val (.int cp), .val (.ref b8), .val (.ref b57), .unset] [(.int (0 : Int32)), (.int sa), (.int (1 : Int32)), (.ref b8), (.int (own_con (0 : Int32) sa (0 : Int32) 0 (nar .char r13)))])) _
      exact k
    obtain ⟨_, _, ⟨T78, L78, kk78, nn78⟩, -, X78, ⟨Lc78, hQ78, lq78, yq78, zq78⟩, st78⟩ := Jvm.LawKit.callS X74 hx (y := (⟨"org/arborlog/pattern/LineTextCodePointCountPinLaw", "contrib", "([CIII)I"⟩ : MethodName)) hown (mvT hZ (hw _ (List.mem_of_getElem? (i := 45) rfl))) (mvT hZ (hw _ (List.mem_of_getElem? (i := 46) rfl))) (mvT hZ (hw _ (List.mem_of_getElem? (i := 3) rfl))) (mvT hZ (hw _ (List.mem_of_getElem? (i := 47) rfl))) (by decide) (backOf (W := 1) (rm9 l Z a0 hw [] b8 (1 : Int32) sa (0 : Int32) kn8 [(.int (nar .char r13)), (.int (nar .char r22)), (.int (nar .char r31)), (.int (nar .char r40)), (.int (nar .char r49))] (nar .char r13) (nar .char r22) T65.heap n0 Z69 f67 (fun _ => ⟨⟨by decide, by decide⟩, rfl⟩) ⟨⟨by decide, by decide⟩, rfl⟩) hZ (hw _ (List.mem_of_getElem? (i := 47) rfl)) (hw _ (List.mem_of_getElem? (i := 3) rfl)) (by decide) (by decide)) (g := (mkF m 187 #[.val (.int p1), .val (.int p2), .val (.int p3), .val (.int p4), .val (.int p5), .val (.int p6), .val (.int (0 : Int32)), .val (.int sa), .val (.int cp), .val (.ref b8), .val (.ref b57), .unset] [(.int (0 : Int32)), (.int sa), (.int (1 : Int32)), (.ref b8), (.int (own_con (0 : Int32) sa (0 : Int32) 0 (nar .char r13)))])) rfl (by rw [hml]; rfl) (argsL := [(.ref b8), (.int (1 : Int32)), (.int sa), (.int (0 : Int32))]) (rest := [(.int (own_con (0 : Int32) sa (0 : Int32) 0 (nar .char r13)))]) (lenOf pd_8 rfl) rfl (by show 2 * 0 + _ ≤ _; exact Nat.le_of_eq rfl) (hb hby at_187) (fun _ _ => ⟨rfl, e74, (by decide : 3 + 0 ≤ _), (by decide : 15 + 0 ≤ _)⟩)
    dsimp only [Pt.U, Pt.locs, Pt.cells, Pt.slots] at X78 lq78 yq78 zq78 st78 hQ78
    subst lq78 yq78 zq78
    obtain ⟨rfl, Nq78, e78⟩ := hQ78
    have N79 := Fr.app N75 Nq78
    have K80 : ∀ t, Steps p.tables e below (T78.setTop (mkF m 190 #[.val (.int p1), .val (.int p2), .val (.int p3), .val (.int p4), .val (.int p5), .val (.int p6), .val (.int (0 : Int32)), .val (.int sa), .val (.int cp), .val (.ref b8), .val (.ref b57), .unset] [(.int (own_con (1 : Int32) sa (0 : Int32) (nar .char r13) (nar .char r22))), (.int (own_con (0 : Int32) sa (0 : Int32) 0 (nar .char r13)))])) t → Steps p.tables e below G t := fun t k => K77 t (st78 _ k)
    have K81 : ∀ t, Steps p.tables e below (T78.setTop (mkF m 198 #[.val (.int p1), .val (.int p2), .val (.int p3), .val (.int p4), .val (.int p5), .val (.int p6), .val (.int (0 : Int32)), .val (.int sa), .val (.int cp), .val (.ref b8), .val (.ref b57), .unset] [(.int (0 : Int32)), (.int sa), (.int (2 : Int32)), (.ref b8), (.int ((own_con (0 : Int32) sa (0 : Int32) 0 (nar .char r13)) + (own_con (1 : Int32) sa (0 : Int32) (nar .char r13) (nar .char r22))))])) t → Steps p.tables e below G t := by
      intro t k
      refine K80 t ?_
      show Steps p.tables e below (T78.setTop (mkF m 190 #[.val (.int p1), .val (.int p2), .val (.int p3), .val (.int p4), .val (.int p5), .val (.int p6), .val (.int (0 : Int32)), .val (.int sa), .val (.int cp), .val (.ref b8), .val (.ref b57), .unset] [(.int (own_con (1 : Int32) sa (0 : Int32) (nar .char r13) (nar .char r22))), (.int (own_con (0 : Int32) sa (0 : Int32) 0 (nar .char r13)))])) _
      refine XS.iadd X78.here hx rfl (hb hby at_190) rfl ?_
      show Steps p.tables e below (T78.setTop (mkF m 191 #[.val (.int p1), .val (.int p2), .val (.int p3), .val (.int p4), .val (.int p5), .val (.int p6), .val (.int (0 : Int32)), .val (.int sa), .val (.int cp), .val (.ref b8), .val (.ref b57), .unset] [(.int ((own_con (0 : Int32) sa (0 : Int32) 0 (nar .char r13)) + (own_con (1 : Int32) sa (0 : Int32) (nar .char r13) (nar .char r22))))])) _
      refine XS.aload X78.here hx rfl (hb hby at_191) rfl rfl ?_
      show Steps p.tables e below (T78.setTop (mkF m 193 #[.val (.int p1), .val (.int p2), .val (.int p3), .val (.int p4), .val (.int p5), .val (.int p6), .val (.int (0 : Int32)), .val (.int sa), .val (.int cp), .val (.ref b8), .val (.ref b57), .unset] [(.ref b8), (.int ((own_con (0 : Int32) sa (0 : Int32) 0 (nar .char r13)) + (own_con (1 : Int32) sa (0 : Int32) (nar .char r13) (nar .char r22))))])) _
      refine XS.iconst X78.here hx rfl (hb hby at_193) ?_
      show Steps p.tables e below (T78.setTop (mkF m 194 #[.val (.int p1), .val (.int p2), .val (.int p3), .val (.int p4), .val (.int p5), .val (.int p6), .val (.int (0 : Int32)), .val (.int sa), .val (.int cp), .val (.ref b8), .val (.ref b57), .unset] [(.int (2 : Int32)), (.ref b8), (.int ((own_con (0 : Int32) sa (0 : Int32) 0 (nar .char r13)) + (own_con (1 : Int32) sa (0 : Int32) (nar .char r13) (nar .char r22))))])) _
      refine XS.iload X78.here hx rfl (hb hby at_194) rfl ?_
      show Steps p.tables e below (T78.setTop (mkF m 196 #[.val (.int p1), .val (.int p2), .val (.int p3), .val (.int p4), .val (.int p5), .val (.int p6), .val (.int (0 : Int32)), .val (.int sa), .val (.int cp), .val (.ref b8), .val (.ref b57), .unset] [(.int sa), (.int (2 : Int32)), (.ref b8), (.int ((own_con (0 : Int32) sa (0 : Int32) 0 (nar .char r13)) + (own_con (1 : Int32) sa (0 : Int32) (nar .char r13) (nar .char r22))))])) _
      refine XS.iload X78.here hx rfl (hb hby at_196) rfl ?_
      show Steps p.tables e below (T78.setTop (mkF m 198 #[.val (.int p1), .val (.int p2), .val (.int p3), .val (.int p4), .val (.int p5), .val (.int p6), .val (.int (0 : Int32)), .val (.int sa), .val (.int cp), .val (.ref b8), .val (.ref b57), .unset] [(.int (0 : Int32)), (.int sa), (.int (2 : Int32)), (.ref b8), (.int ((own_con (0 : Int32) sa (0 : Int32) 0 (nar .char r13)) + (own_con (1 : Int32) sa (0 : Int32) (nar .char r13) (nar .char r22))))])) _
      exact k
    obtain ⟨_, _, ⟨T82, L82, kk82, nn82⟩, -, X82, ⟨Lc82, hQ82, lq82, yq82, zq82⟩, st82⟩ := Jvm.LawKit.callS X78 hx (y := (⟨"org/arborlog/pattern/LineTextCodePointCountPinLaw", "contrib", "([CIII)I"⟩ : MethodName)) hown (mvT hZ (hw _ (List.mem_of_getElem? (i := 45) rfl))) (mvT hZ (hw _ (List.mem_of_getElem? (i := 46) rfl))) (mvT hZ (hw _ (List.mem_of_getElem? (i := 3) rfl))) (mvT hZ (hw _ (List.mem_of_getElem? (i := 47) rfl))) (by decide) (backOf (W := 1) (rm9 l Z a0 hw [] b8 (2 : Int32) sa (0 : Int32) kn8 [(.int (nar .char r13)), (.int (nar .char r22)), (.int (nar .char r31)), (.int (nar .char r40)), (.int (nar .char r49))] (nar .char r22) (nar .char r31) T65.heap n0 Z69 f67 (fun _ => ⟨⟨by decide, by decide⟩, rfl⟩) ⟨⟨by decide, by decide⟩, rfl⟩) hZ (hw _ (List.mem_of_getElem? (i := 47) rfl)) (hw _ (List.mem_of_getElem? (i := 3) rfl)) (by decide) (by decide)) (g := (mkF m 198 #[.val (.int p1), .val (.int p2), .val (.int p3), .val (.int p4), .val (.int p5), .val (.int p6), .val (.int (0 : Int32)), .val (.int sa), .val (.int cp), .val (.ref b8), .val (.ref b57), .unset] [(.int (0 : Int32)), (.int sa), (.int (2 : Int32)), (.ref b8), (.int ((own_con (0 : Int32) sa (0 : Int32) 0 (nar .char r13)) + (own_con (1 : Int32) sa (0 : Int32) (nar .char r13) (nar .char r22))))])) rfl (by rw [hml]; rfl) (argsL := [(.ref b8), (.int (2 : Int32)), (.int sa), (.int (0 : Int32))]) (rest := [(.int ((own_con (0 : Int32) sa (0 : Int32) 0 (nar .char r13)) + (own_con (1 : Int32) sa (0 : Int32) (nar .char r13) (nar .char r22))))]) (lenOf pd_8 rfl) rfl (by show 2 * 0 + _ ≤ _; exact Nat.le_of_eq rfl) (hb hby at_198) (fun _ _ => ⟨rfl, e78, (by decide : 3 + 0 ≤ _), (by decide : 15 + 0 ≤ _)⟩)
    dsimp only [Pt.U, Pt.locs, Pt.cells, Pt.slots] at X82 lq82 yq82 zq82 st82 hQ82
    subst lq82 yq82 zq82
    obtain ⟨rfl, Nq82, e82⟩ := hQ82
    have N83 := Fr.app N79 Nq82
    have K84 : ∀ t, Steps p.tables e below (T82.setTop (mkF m 201 #[.val (.int p1), .val (.int p2), .val (.int p3), .val (.int p4), .val (.int p5), .val (.int p6), .val (.int (0 : Int32)), .val (.int sa), .val (.int cp), .val (.ref b8), .val (.ref b57), .unset] [(.int (own_con (2 : Int32) sa (0 : Int32) (nar .char r22) (nar .char r31))), (.int ((own_con (0 : Int32) sa (0 : Int32) 0 (nar .char r13)) + (own_con (1 : Int32) sa (0 : Int32) (nar .char r13) (nar .char r22))))])) t → Steps p.tables e below G t := fun t k => K81 t (st82 _ k)
    have K85 : ∀ t, Steps p.tables e below (T82.setTop (mkF m 209 #[.val (.int p1), .val (.int p2), .val (.int p3), .val (.int p4), .val (.int p5), .val (.int p6), .val (.int (0 : Int32)), .val (.int sa), .val (.int cp), .val (.ref b8), .val (.ref b57), .unset] [(.int (0 : Int32)), (.int sa), (.int (3 : Int32)), (.ref b8), (.int (((own_con (0 : Int32) sa (0 : Int32) 0 (nar .char r13)) + (own_con (1 : Int32) sa (0 : Int32) (nar .char r13) (nar .char r22))) + (own_con (2 : Int32) sa (0 : Int32) (nar .char r22) (nar .char r31))))])) t → Steps p.tables e below G t := by
      intro t k
      refine K84 t ?_
      show Steps p.tables e below (T82.setTop (mkF m 201 #[.val (.int p1), .val (.int p2), .val (.int p3), .val (.int p4), .val (.int p5), .val (.int p6), .val (.int (0 : Int32)), .val (.int sa), .val (.int cp), .val (.ref b8), .val (.ref b57), .unset] [(.int (own_con (2 : Int32) sa (0 : Int32) (nar .char r22) (nar .char r31))), (.int ((own_con (0 : Int32) sa (0 : Int32) 0 (nar .char r13)) + (own_con (1 : Int32) sa (0 : Int32) (nar .char r13) (nar .char r22))))])) _
      refine XS.iadd X82.here hx rfl (hb hby at_201) rfl ?_
      show Steps p.tables e below (T82.setTop (mkF m 202 #[.val (.int p1), .val (.int p2), .val (.int p3), .val (.int p4), .val (.int p5), .val (.int p6), .val (.int (0 : Int32)), .val (.int sa), .val (.int cp), .val (.ref b8), .val (.ref b57), .unset] [(.int (((own_con (0 : Int32) sa (0 : Int32) 0 (nar .char r13)) + (own_con (1 : Int32) sa (0 : Int32) (nar .char r13) (nar .char r22))) + (own_con (2 : Int32) sa (0 : Int32) (nar .char r22) (nar .char r31))))])) _
      refine XS.aload X82.here hx rfl (hb hby at_202) rfl rfl ?_
      show Steps p.tables e below (T82.setTop (mkF m 204 #[.val (.int p1), .val (.int p2), .val (.int p3), .val (.int p4), .val (.int p5), .val (.int p6), .val (.int (0 : Int32)), .val (.int sa), .val (.int cp), .val (.ref b8), .val (.ref b57), .unset] [(.ref b8), (.int (((own_con (0 : Int32) sa (0 : Int32) 0 (nar .char r13)) + (own_con (1 : Int32) sa (0 : Int32) (nar .char r13) (nar .char r22))) + (own_con (2 : Int32) sa (0 : Int32) (nar .char r22) (nar .char r31))))])) _
      refine XS.iconst X82.here hx rfl (hb hby at_204) ?_
      show Steps p.tables e below (T82.setTop (mkF m 205 #[.val (.int p1), .val (.int p2), .val (.int p3), .val (.int p4), .val (.int p5), .val (.int p6), .val (.int (0 : Int32)), .val (.int sa), .val (.int cp), .val (.ref b8), .val (.ref b57), .unset] [(.int (3 : Int32)), (.ref b8), (.int (((own_con (0 : Int32) sa (0 : Int32) 0 (nar .char r13)) + (own_con (1 : Int32) sa (0 : Int32) (nar .char r13) (nar .char r22))) + (own_con (2 : Int32) sa (0 : Int32) (nar .char r22) (nar .char r31))))])) _
      refine XS.iload X82.here hx rfl (hb hby at_205) rfl ?_
      show Steps p.tables e below (T82.setTop (mkF m 207 #[.val (.int p1), .val (.int p2), .val (.int p3), .val (.int p4), .val (.int p5), .val (.int p6), .val (.int (0 : Int32)), .val (.int sa), .val (.int cp), .val (.ref b8), .val (.ref b57), .unset] [(.int sa), (.int (3 : Int32)), (.ref b8), (.int (((own_con (0 : Int32) sa (0 : Int32) 0 (nar .char r13)) + (own_con (1 : Int32) sa (0 : Int32) (nar .char r13) (nar .char r22))) + (own_con (2 : Int32) sa (0 : Int32) (nar .char r22) (nar .char r31))))])) _
      refine XS.iload X82.here hx rfl (hb hby at_207) rfl ?_
      show Steps p.tables e below (T82.setTop (mkF m 209 #[.val (.int p1), .val (.int p2), .val (.int p3), .val (.int p4), .val (.int p5), .val (.int p6), .val (.int (0 : Int32)), .val (.int sa), .val (.int cp), .val (.ref b8), .val (.ref b57), .unset] [(.int (0 : Int32)), (.int sa), (.int (3 : Int32)), (.ref b8), (.int (((own_con (0 : Int32) sa (0 : Int32) 0 (nar .char r13)) + (own_con (1 : Int32) sa (0 : Int32) (nar .char r13) (nar .char r22))) + (own_con (2 : Int32) sa (0 : Int32) (nar .char r22) (nar .char r31))))])) _
      exact k
    obtain ⟨_, _, ⟨T86, L86, kk86, nn86⟩, -, X86, ⟨Lc86, hQ86, lq86, yq86, zq86⟩, st86⟩ := Jvm.LawKit.callS X82 hx (y := (⟨"org/arborlog/pattern/LineTextCodePointCountPinLaw", "contrib", "([CIII)I"⟩ : MethodName)) hown (mvT hZ (hw _ (List.mem_of_getElem? (i := 45) rfl))) (mvT hZ (hw _ (List.mem_of_getElem? (i := 46) rfl))) (mvT hZ (hw _ (List.mem_of_getElem? (i := 3) rfl))) (mvT hZ (hw _ (List.mem_of_getElem? (i := 47) rfl))) (by decide) (backOf (W := 1) (rm9 l Z a0 hw [] b8 (3 : Int32) sa (0 : Int32) kn8 [(.int (nar .char r13)), (.int (nar .char r22)), (.int (nar .char r31)), (.int (nar .char r40)), (.int (nar .char r49))] (nar .char r31) (nar .char r40) T65.heap n0 Z69 f67 (fun _ => ⟨⟨by decide, by decide⟩, rfl⟩) ⟨⟨by decide, by decide⟩, rfl⟩) hZ (hw _ (List.mem_of_getElem? (i := 47) rfl)) (hw _ (List.mem_of_getElem? (i := 3) rfl)) (by decide) (by decide)) (g := (mkF m 209 #[.val (.int p1), .val (.int p2), .val (.int p3), .val (.int p4), .val (.int p5), .val (.int p6), .val (.int (0 : Int32)), .val (.int sa), .val (.int cp), .val (.ref b8), .val (.ref b57), .unset] [(.int (0 : Int32)), (.int sa), (.int (3 : Int32)), (.ref b8), (.int (((own_con (0 : Int32) sa (0 : Int32) 0 (nar .char r13)) + (own_con (1 : Int32) sa (0 : Int32) (nar .char r13) (nar .char r22))) + (own_con (2 : Int32) sa (0 : Int32) (nar .char r22) (nar .char r31))))])) rfl (by rw [hml]; rfl) (argsL := [(.ref b8), (.int (3 : Int32)), (.int sa), (.int (0 : Int32))]) (rest := [(.int (((own_con (0 : Int32) sa (0 : Int32) 0 (nar .char r13)) + (own_con (1 : Int32) sa (0 : Int32) (nar .char r13) (nar .char r22))) + (own_con (2 : Int32) sa (0 : Int32) (nar .char r22) (nar .char r31))))]) (lenOf pd_8 rfl) rfl (by show 2 * 0 + _ ≤ _; exact Nat.le_of_eq rfl) (hb hby at_209) (fun _ _ => ⟨rfl, e82, (by decide : 3 + 0 ≤ _), (by decide : 15 + 0 ≤ _)⟩)
    dsimp only [Pt.U, Pt.locs, Pt.cells, Pt.slots] at X86 lq86 yq86 zq86 st86 hQ86
    subst lq86 yq86 zq86
    obtain ⟨rfl, Nq86, e86⟩ := hQ86
    have N87 := Fr.app N83 Nq86
    have K88 : ∀ t, Steps p.tables e below (T86.setTop (mkF m 212 #[.val (.int p1), .val (.int p2), .val (.int p3), .val (.int p4), .val (.int p5), .val (.int p6), .val (.int (0 : Int32)), .val (.int sa), .val (.int cp), .val (.ref b8), .val (.ref b57), .unset] [(.int (own_con (3 : Int32) sa (0 : Int32) (nar .char r31) (nar .char r40))), (.int (((own_con (0 : Int32) sa (0 : Int32) 0 (nar .char r13)) + (own_con (1 : Int32) sa (0 : Int32) (nar .char r13) (nar .char r22))) + (own_con (2 : Int32) sa (0 : Int32) (nar .char r22) (nar .char r31))))])) t → Steps p.tables e below G t := fun t k => K85 t (st86 _ k)
    have K89 : ∀ t, Steps p.tables e below (T86.setTop (mkF m 220 #[.val (.int p1), .val (.int p2), .val (.int p3), .val (.int p4), .val (.int p5), .val (.int p6), .val (.int (0 : Int32)), .val (.int sa), .val (.int cp), .val (.ref b8), .val (.ref b57), .unset] [(.int (0 : Int32)), (.int sa), (.int (4 : Int32)), (.ref b8), (.int ((((own_con (0 : Int32) sa (0 : Int32) 0 (nar .char r13)) + (own_con (1 : Int32) sa (0 : Int32) (nar .char r13) (nar .char r22))) + (own_con (2 : Int32) sa (0 : Int32) (nar .char r22) (nar .char r31))) + (own_con (3 : Int32) sa (0 : Int32) (nar .char r31) (nar .char r40))))])) t → Steps p.tables e below G t := by
      intro t k
      refine K88 t ?_
      show Steps p.tables e below (T86.setTop (mkF m 212 #[.val (.int p1), .val (.int p2), .val (.int p3), .val (.int p4), .val (.int p5), .val (.int p6), .val (.int (0 : Int32)), .val (.int sa), .val (.int cp), .val (.ref b8), .val (.ref b57), .unset] [(.int (own_con (3 : Int32) sa (0 : Int32) (nar .char r31) (nar .char r40))), (.int (((own_con (0 : Int32) sa (0 : Int32) 0 (nar .char r13)) + (own_con (1 : Int32) sa (0 : Int32) (nar .char r13) (nar .char r22))) + (own_con (2 : Int32) sa (0 : Int32) (nar .char r22) (nar .char r31))))])) _
      refine XS.iadd X86.here hx rfl (hb hby at_212) rfl ?_
      show Steps p.tables e below (T86.setTop (mkF m 213 #[.val (.int p1), .val (.int p2), .val (.int p3), .val (.int p4), .val (.int p5), .val (.int p6), .val (.int (0 : Int32)), .val (.int sa), .val (.int cp), .val (.ref b8), .val (.ref b57), .unset] [(.int ((((own_con (0 : Int32) sa (0 : Int32) 0 (nar .char r13)) + (own_con (1 : Int32) sa (0 : Int32) (nar .char r13) (nar .char r22))) + (own_con (2 : Int32) sa (0 : Int32) (nar .char r22) (nar .char r31))) + (own_con (3 : Int32) sa (0 : Int32) (nar .char r31) (nar .char r40))))])) _
      refine XS.aload X86.here hx rfl (hb hby at_213) rfl rfl ?_
      show Steps p.tables e below (T86.setTop (mkF m 215 #[.val (.int p1), .val (.int p2), .val (.int p3), .val (.int p4), .val (.int p5), .val (.int p6), .val (.int (0 : Int32)), .val (.int sa), .val (.int cp), .val (.ref b8), .val (.ref b57), .unset] [(.ref b8), (.int ((((own_con (0 : Int32) sa (0 : Int32) 0 (nar .char r13)) + (own_con (1 : Int32) sa (0 : Int32) (nar .char r13) (nar .char r22))) + (own_con (2 : Int32) sa (0 : Int32) (nar .char r22) (nar .char r31))) + (own_con (3 : Int32) sa (0 : Int32) (nar .char r31) (nar .char r40))))])) _
      refine XS.iconst X86.here hx rfl (hb hby at_215) ?_
      show Steps p.tables e below (T86.setTop (mkF m 216 #[.val (.int p1), .val (.int p2), .val (.int p3), .val (.int p4), .val (.int p5), .val (.int p6), .val (.int (0 : Int32)), .val (.int sa), .val (.int cp), .val (.ref b8), .val (.ref b57), .unset] [(.int (4 : Int32)), (.ref b8), (.int ((((own_con (0 : Int32) sa (0 : Int32) 0 (nar .char r13)) + (own_con (1 : Int32) sa (0 : Int32) (nar .char r13) (nar .char r22))) + (own_con (2 : Int32) sa (0 : Int32) (nar .char r22) (nar .char r31))) + (own_con (3 : Int32) sa (0 : Int32) (nar .char r31) (nar .char r40))))])) _
      refine XS.iload X86.here hx rfl (hb hby at_216) rfl ?_
      show Steps p.tables e below (T86.setTop (mkF m 218 #[.val (.int p1), .val (.int p2), .val (.int p3), .val (.int p4), .val (.int p5), .val (.int p6), .val (.int (0 : Int32)), .val (.int sa), .val (.int cp), .val (.ref b8), .val (.ref b57), .unset] [(.int sa), (.int (4 : Int32)), (.ref b8), (.int ((((own_con (0 : Int32) sa (0 : Int32) 0 (nar .char r13)) + (own_con (1 : Int32) sa (0 : Int32) (nar .char r13) (nar .char r22))) + (own_con (2 : Int32) sa (0 : Int32) (nar .char r22) (nar .char r31))) + (own_con (3 : Int32) sa (0 : Int32) (nar .char r31) (nar .char r40))))])) _
      refine XS.iload X86.here hx rfl (hb hby at_218) rfl ?_
      show Steps p.tables e below (T86.setTop (mkF m 220 #[.val (.int p1), .val (.int p2), .val (.int p3), .val (.int p4), .val (.int p5), .val (.int p6), .val (.int (0 : Int32)), .val (.int sa), .val (.int cp), .val (.ref b8), .val (.ref b57), .unset] [(.int (0 : Int32)), (.int sa), (.int (4 : Int32)), (.ref b8), (.int ((((own_con (0 : Int32) sa (0 : Int32) 0 (nar .char r13)) + (own_con (1 : Int32) sa (0 : Int32) (nar .char r13) (nar .char r22))) + (own_con (2 : Int32) sa (0 : Int32) (nar .char r22) (nar .char r31))) + (own_con (3 : Int32) sa (0 : Int32) (nar .char r31) (nar .char r40))))])) _
      exact k
    obtain ⟨_, _, ⟨T90, L90, kk90, nn90⟩, -, X90, ⟨Lc90, hQ90, lq90, yq90, zq90⟩, st90⟩ := Jvm.LawKit.callS X86 hx (y := (⟨"org/arborlog/pattern/LineTextCodePointCountPinLaw", "contrib", "([CIII)I"⟩ : MethodName)) hown (mvT hZ (hw _ (List.mem_of_getElem? (i := 45) rfl))) (mvT hZ (hw _ (List.mem_of_getElem? (i := 46) rfl))) (mvT hZ (hw _ (List.mem_of_getElem? (i := 3) rfl))) (mvT hZ (hw _ (List.mem_of_getElem? (i := 47) rfl))) (by decide) (backOf (W := 1) (rm9 l Z a0 hw [] b8 (4 : Int32) sa (0 : Int32) kn8 [(.int (nar .char r13)), (.int (nar .char r22)), (.int (nar .char r31)), (.int (nar .char r40)), (.int (nar .char r49))] (nar .char r40) (nar .char r49) T65.heap n0 Z69 f67 (fun _ => ⟨⟨by decide, by decide⟩, rfl⟩) ⟨⟨by decide, by decide⟩, rfl⟩) hZ (hw _ (List.mem_of_getElem? (i := 47) rfl)) (hw _ (List.mem_of_getElem? (i := 3) rfl)) (by decide) (by decide)) (g := (mkF m 220 #[.val (.int p1), .val (.int p2), .val (.int p3), .val (.int p4), .val (.int p5), .val (.int p6), .val (.int (0 : Int32)), .val (.int sa), .val (.int cp), .val (.ref b8), .val (.ref b57), .unset] [(.int (0 : Int32)), (.int sa), (.int (4 : Int32)), (.ref b8), (.int ((((own_con (0 : Int32) sa (0 : Int32) 0 (nar .char r13)) + (own_con (1 : Int32) sa (0 : Int32) (nar .char r13) (nar .char r22))) + (own_con (2 : Int32) sa (0 : Int32) (nar .char r22) (nar .char r31))) + (own_con (3 : Int32) sa (0 : Int32) (nar .char r31) (nar .char r40))))])) rfl (by rw [hml]; rfl) (argsL := [(.ref b8), (.int (4 : Int32)), (.int sa), (.int (0 : Int32))]) (rest := [(.int ((((own_con (0 : Int32) sa (0 : Int32) 0 (nar .char r13)) + (own_con (1 : Int32) sa (0 : Int32) (nar .char r13) (nar .char r22))) + (own_con (2 : Int32) sa (0 : Int32) (nar .char r22) (nar .char r31))) + (own_con (3 : Int32) sa (0 : Int32) (nar .char r31) (nar .char r40))))]) (lenOf pd_8 rfl) rfl (by show 2 * 0 + _ ≤ _; exact Nat.le_of_eq rfl) (hb hby at_220) (fun _ _ => ⟨rfl, e86, (by decide : 3 + 0 ≤ _), (by decide : 15 + 0 ≤ _)⟩)
    dsimp only [Pt.U, Pt.locs, Pt.cells, Pt.slots] at X90 lq90 yq90 zq90 st90 hQ90
    subst lq90 yq90 zq90
    obtain ⟨rfl, Nq90, e90⟩ := hQ90
    have N91 := Fr.app N87 Nq90
    have K92 : ∀ t, Steps p.tables e below (T90.setTop (mkF m 223 #[.val (.int p1), .val (.int p2), .val (.int p3), .val (.int p4), .val (.int p5), .val (.int p6), .val (.int (0 : Int32)), .val (.int sa), .val (.int cp), .val (.ref b8), .val (.ref b57), .unset] [(.int (own_con (4 : Int32) sa (0 : Int32) (nar .char r40) (nar .char r49))), (.int ((((own_con (0 : Int32) sa (0 : Int32) 0 (nar .char r13)) + (own_con (1 : Int32) sa (0 : Int32) (nar .char r13) (nar .char r22))) + (own_con (2 : Int32) sa (0 : Int32) (nar .char r22) (nar .char r31))) + (own_con (3 : Int32) sa (0 : Int32) (nar .char r31) (nar .char r40))))])) t → Steps p.tables e below G t := fun t k => K89 t (st90 _ k)
    have K93 : ∀ t, Steps p.tables e below (T90.setTop (mkF m 230 #[.val (.int p1), .val (.int p2), .val (.int p3), .val (.int p4), .val (.int p5), .val (.int p6), .val (.int (0 : Int32)), .val (.int sa), .val (.int cp), .val (.ref b8), .val (.ref b57), .val (.int (((((own_con (0 : Int32) sa (0 : Int32) 0 (nar .char r13)) + (own_con (1 : Int32) sa (0 : Int32) (nar .char r13) (nar .char r22))) + (own_con (2 : Int32) sa (0 : Int32) (nar .char r22) (nar .char r31))) + (own_con (3 : Int32) sa (0 : Int32) (nar .char r31) (nar .char r40))) + (own_con (4 : Int32) sa (0 : Int32) (nar .char r40) (nar .char r49))))] [(.int sa), (.ref b57)])) t → Steps p.tables e below G t := by
      intro t k
      refine K92 t ?_
      show Steps p.tables e below (T90.setTop (mkF m 223 #[.val (.int p1), .val (.int p2), .val (.int p3), .val (.int p4), .val (.int p5), .val (.int p6), .val (.int (0 : Int32)), .val (.int sa), .val (.int cp), .val (.ref b8), .val (.ref b57), .unset] [(.int (own_con (4 : Int32) sa (0 : Int32) (nar .char r40) (nar .char r49))), (.int ((((own_con (0 : Int32) sa (0 : Int32) 0 (nar .char r13)) + (own_con (1 : Int32) sa (0 : Int32) (nar .char r13) (nar .char r22))) + (own_con (2 : Int32) sa (0 : Int32) (nar .char r22) (nar .char r31))) + (own_con (3 : Int32) sa (0 : Int32) (nar .char r31) (nar .char r40))))])) _
      refine XS.iadd X90.here hx rfl (hb hby at_223) rfl ?_
      show Steps p.tables e below (T90.setTop (mkF m 224 #[.val (.int p1), .val (.int p2), .val (.int p3), .val (.int p4), .val (.int p5), .val (.int p6), .val (.int (0 : Int32)), .val (.int sa), .val (.int cp), .val (.ref b8), .val (.ref b57), .unset] [(.int (((((own_con (0 : Int32) sa (0 : Int32) 0 (nar .char r13)) + (own_con (1 : Int32) sa (0 : Int32) (nar .char r13) (nar .char r22))) + (own_con (2 : Int32) sa (0 : Int32) (nar .char r22) (nar .char r31))) + (own_con (3 : Int32) sa (0 : Int32) (nar .char r31) (nar .char r40))) + (own_con (4 : Int32) sa (0 : Int32) (nar .char r40) (nar .char r49))))])) _
      refine XS.istore X90.here hx rfl (hb hby at_224) rfl (l' := #[.val (.int p1), .val (.int p2), .val (.int p3), .val (.int p4), .val (.int p5), .val (.int p6), .val (.int (0 : Int32)), .val (.int sa), .val (.int cp), .val (.ref b8), .val (.ref b57), .val (.int (((((own_con (0 : Int32) sa (0 : Int32) 0 (nar .char r13)) + (own_con (1 : Int32) sa (0 : Int32) (nar .char r13) (nar .char r22))) + (own_con (2 : Int32) sa (0 : Int32) (nar .char r22) (nar .char r31))) + (own_con (3 : Int32) sa (0 : Int32) (nar .char r31) (nar .char r40))) + (own_con (4 : Int32) sa (0 : Int32) (nar .char r40) (nar .char r49))))]) rfl ?_
      show Steps p.tables e below (T90.setTop (mkF m 226 #[.val (.int p1), .val (.int p2), .val (.int p3), .val (.int p4), .val (.int p5), .val (.int p6), .val (.int (0 : Int32)), .val (.int sa), .val (.int cp), .val (.ref b8), .val (.ref b57), .val (.int (((((own_con (0 : Int32) sa (0 : Int32) 0 (nar .char r13)) + (own_con (1 : Int32) sa (0 : Int32) (nar .char r13) (nar .char r22))) + (own_con (2 : Int32) sa (0 : Int32) (nar .char r22) (nar .char r31))) + (own_con (3 : Int32) sa (0 : Int32) (nar .char r31) (nar .char r40))) + (own_con (4 : Int32) sa (0 : Int32) (nar .char r40) (nar .char r49))))] [])) _
      refine XS.aload X90.here hx rfl (hb hby at_226) rfl rfl ?_
      show Steps p.tables e below (T90.setTop (mkF m 228 #[.val (.int p1), .val (.int p2), .val (.int p3), .val (.int p4), .val (.int p5), .val (.int p6), .val (.int (0 : Int32)), .val (.int sa), .val (.int cp), .val (.ref b8), .val (.ref b57), .val (.int (((((own_con (0 : Int32) sa (0 : Int32) 0 (nar .char r13)) + (own_con (1 : Int32) sa (0 : Int32) (nar .char r13) (nar .char r22))) + (own_con (2 : Int32) sa (0 : Int32) (nar .char r22) (nar .char r31))) + (own_con (3 : Int32) sa (0 : Int32) (nar .char r31) (nar .char r40))) + (own_con (4 : Int32) sa (0 : Int32) (nar .char r40) (nar .char r49))))] [(.ref b57)])) _
      refine XS.iload X90.here hx rfl (hb hby at_228) rfl ?_
      show Steps p.tables e below (T90.setTop (mkF m 230 #[.val (.int p1), .val (.int p2), .val (.int p3), .val (.int p4), .val (.int p5), .val (.int p6), .val (.int (0 : Int32)), .val (.int sa), .val (.int cp), .val (.ref b8), .val (.ref b57), .val (.int (((((own_con (0 : Int32) sa (0 : Int32) 0 (nar .char r13)) + (own_con (1 : Int32) sa (0 : Int32) (nar .char r13) (nar .char r22))) + (own_con (2 : Int32) sa (0 : Int32) (nar .char r22) (nar .char r31))) + (own_con (3 : Int32) sa (0 : Int32) (nar .char r31) (nar .char r40))) + (own_con (4 : Int32) sa (0 : Int32) (nar .char r40) (nar .char r49))))] [(.int sa), (.ref b57)])) _
      exact k
    obtain ⟨hp, hse⟩ := own_hp (by decide) hsa hc7.1
    have hf : ∀ j : Nat, j < (sa + ((0 : Int32) - sa)).toNatClampNeg → [].getD j (Value.int (0 : Int32)) = .int ((fun j => ([(nar .char r13), (nar .char r22), (nar .char r31), (nar .char r40), (nar .char r49)] : List Int32).getD j 0) j) := fun j hj => by
      rw [hse] at hj
      have hj' : j < 0 := hj
      match j, hj' with
      | j + 0, h => exact absurd h (by omega)
    obtain ⟨cq94, kq94, q94a, q94b, q94c⟩ := isOf hZ e90 E65'
    obtain ⟨_, _, ⟨T94, L94, kk94, nn94⟩, -, X94, ⟨Lc94, hQ94, lq94, yq94, zq94⟩, st94⟩ := X90.virtualBack hx (y := (⟨"org/arborlog/pattern/LineText", "codePointCount", "(I)I"⟩ : MethodName)) (z := (⟨"org/arborlog/pattern/LineText", "codePointCount", "(I)I"⟩ : MethodName)) hown (mvT hZ (hw _ (List.mem_of_getElem? (i := 51) rfl))) (mvT hZ (hw _ (List.mem_of_getElem? (i := 52) rfl))) (notFace_of_selects (args := #[]) (mvT hZ (hw _ (List.mem_of_getElem? (i := 54) rfl)))) (mvT hZ (hw _ (List.mem_of_getElem? (i := 54) rfl))) (mvT hZ (hw _ (List.mem_of_getElem? (i := 53) rfl))) (by decide) (backOf (W := 0) (rm11 l Z a0 hw [] b57 sa b65 (0 : Int32) kb65 cp [] (fun j => ([(nar .char r13), (nar .char r22), (nar .char r31), (nar .char r40), (nar .char r49)] : List Int32).getD j 0) T65.heap n0 Z69 Fc65 Fl65 Vb65 hp hf) hZ (hw _ (List.mem_of_getElem? (i := 55) rfl)) (hw _ (List.mem_of_getElem? (i := 10) rfl)) (by decide) (by decide)) q94a q94c (g := (mkF m 230 #[.val (.int p1), .val (.int p2), .val (.int p3), .val (.int p4), .val (.int p5), .val (.int p6), .val (.int (0 : Int32)), .val (.int sa), .val (.int cp), .val (.ref b8), .val (.ref b57), .val (.int (((((own_con (0 : Int32) sa (0 : Int32) 0 (nar .char r13)) + (own_con (1 : Int32) sa (0 : Int32) (nar .char r13) (nar .char r22))) + (own_con (2 : Int32) sa (0 : Int32) (nar .char r22) (nar .char r31))) + (own_con (3 : Int32) sa (0 : Int32) (nar .char r31) (nar .char r40))) + (own_con (4 : Int32) sa (0 : Int32) (nar .char r40) (nar .char r49))))] [(.int sa), (.ref b57)])) rfl (by rw [hml]; rfl) (Steps.refl _) (argsL := [(.int sa)]) (rest := []) (lenOf pd_9 rfl) rfl (by show 2 * 0 + _ ≤ _; exact Nat.le_of_eq rfl) (hb hby at_230) (fun _ _ => ⟨rfl, e90, (by decide : 3 + 0 ≤ _), (by decide : 15 + 0 ≤ _)⟩)
    dsimp only [Pt.U, Pt.locs, Pt.cells, Pt.slots] at X94 lq94 yq94 zq94 st94 hQ94
    subst lq94 yq94 zq94
    obtain ⟨rfl, Nq94, e94⟩ := hQ94
    have N95 := Fr.app N91 Nq94
    have K96 : ∀ t, Steps p.tables e below (T94.setTop (mkF m 233 #[.val (.int p1), .val (.int p2), .val (.int p3), .val (.int p4), .val (.int p5), .val (.int p6), .val (.int (0 : Int32)), .val (.int sa), .val (.int cp), .val (.ref b8), .val (.ref b57), .val (.int (((((own_con (0 : Int32) sa (0 : Int32) 0 (nar .char r13)) + (own_con (1 : Int32) sa (0 : Int32) (nar .char r13) (nar .char r22))) + (own_con (2 : Int32) sa (0 : Int32) (nar .char r22) (nar .char r31))) + (own_con (3 : Int32) sa (0 : Int32) (nar .char r31) (nar .char r40))) + (own_con (4 : Int32) sa (0 : Int32) (nar .char r40) (nar .char r49))))] [(.int (((0 : Int32) - sa) - own_pr (fun j => ([(nar .char r13), (nar .char r22), (nar .char r31), (nar .char r40), (nar .char r49)] : List Int32).getD j 0) ((0 : Int32) - sa).toNatClampNeg sa.toNatClampNeg))])) t → Steps p.tables e below G t := fun t k => K93 t (st94.trans k)
    have hfin : (((0 : Int32) - sa) - own_pr (fun j => ([(nar .char r13), (nar .char r22), (nar .char r31), (nar .char r40), (nar .char r49)] : List Int32).getD j 0) ((0 : Int32) - sa).toNatClampNeg sa.toNatClampNeg) = (((((own_con (0 : Int32) sa (0 : Int32) 0 (nar .char r13)) + (own_con (1 : Int32) sa (0 : Int32) (nar .char r13) (nar .char r22))) + (own_con (2 : Int32) sa (0 : Int32) (nar .char r22) (nar .char r31))) + (own_con (3 : Int32) sa (0 : Int32) (nar .char r31) (nar .char r40))) + (own_con (4 : Int32) sa (0 : Int32) (nar .char r40) (nar .char r49))) := by
      rcases own_n6 (n := sa) ⟨hsa.1, Int.le_trans hsa.2 (by decide)⟩ with q | q | q | q | q | q <;> rw [q] at hsa ⊢
      · exact own_fin_0_0 _ _ _ _ _ _ rfl rfl rfl rfl rfl
      · exact absurd hsa.2 (by decide)
      · exact absurd hsa.2 (by decide)
      · exact absurd hsa.2 (by decide)
      · exact absurd hsa.2 (by decide)
      · exact absurd hsa.2 (by decide)
    obtain ⟨fs, hr, hrun, hended, hW, hsame⟩ := X94.leave (v := some (.int (1 : Int32))) (fun h => by rw [Bd.returns] at h; cases h)
    have KF := K96
    rw [hG] at KF
    refine ⟨_, _, KF _ ?_, hrun, hended, _, _, rfl, ?_, ⟨_, rfl⟩, hW, hsame.mono (by decide) (by decide)⟩
    · show Steps p.tables e below (T94.setTop (mkF m 233 #[.val (.int p1), .val (.int p2), .val (.int p3), .val (.int p4), .val (.int p5), .val (.int p6), .val (.int (0 : Int32)), .val (.int sa), .val (.int cp), .val (.ref b8), .val (.ref b57), .val (.int (((((own_con (0 : Int32) sa (0 : Int32) 0 (nar .char r13)) + (own_con (1 : Int32) sa (0 : Int32) (nar .char r13) (nar .char r22))) + (own_con (2 : Int32) sa (0 : Int32) (nar .char r22) (nar .char r31))) + (own_con (3 : Int32) sa (0 : Int32) (nar .char r31) (nar .char r40))) + (own_con (4 : Int32) sa (0 : Int32) (nar .char r40) (nar .char r49))))] [(.int (((0 : Int32) - sa) - own_pr (fun j => ([(nar .char r13), (nar .char r22), (nar .char r31), (nar .char r40), (nar .char r49)] : List Int32).getD j 0) ((0 : Int32) - sa).toNatClampNeg sa.toNatClampNeg))])) _
      refine XS.iload X94.here hx rfl (hb hby at_233) rfl ?_
      show Steps p.tables e below (T94.setTop (mkF m 235 #[.val (.int p1), .val (.int p2), .val (.int p3), .val (.int p4), .val (.int p5), .val (.int p6), .val (.int (0 : Int32)), .val (.int sa), .val (.int cp), .val (.ref b8), .val (.ref b57), .val (.int (((((own_con (0 : Int32) sa (0 : Int32) 0 (nar .char r13)) + (own_con (1 : Int32) sa (0 : Int32) (nar .char r13) (nar .char r22))) + (own_con (2 : Int32) sa (0 : Int32) (nar .char r22) (nar .char r31))) + (own_con (3 : Int32) sa (0 : Int32) (nar .char r31) (nar .char r40))) + (own_con (4 : Int32) sa (0 : Int32) (nar .char r40) (nar .char r49))))] [(.int (((((own_con (0 : Int32) sa (0 : Int32) 0 (nar .char r13)) + (own_con (1 : Int32) sa (0 : Int32) (nar .char r13) (nar .char r22))) + (own_con (2 : Int32) sa (0 : Int32) (nar .char r22) (nar .char r31))) + (own_con (3 : Int32) sa (0 : Int32) (nar .char r31) (nar .char r40))) + (own_con (4 : Int32) sa (0 : Int32) (nar .char r40) (nar .char r49)))), (.int (((0 : Int32) - sa) - own_pr (fun j => ([(nar .char r13), (nar .char r22), (nar .char r31), (nar .char r40), (nar .char r49)] : List Int32).getD j 0) ((0 : Int32) - sa).toNatClampNeg sa.toNatClampNeg))])) _
      refine XS.icmpNo X94.here hx rfl (hb hby at_235) rfl (teq hfin).2 ?_
      show Steps p.tables e below (T94.setTop (mkF m 238 #[.val (.int p1), .val (.int p2), .val (.int p3), .val (.int p4), .val (.int p5), .val (.int p6), .val (.int (0 : Int32)), .val (.int sa), .val (.int cp), .val (.ref b8), .val (.ref b57), .val (.int (((((own_con (0 : Int32) sa (0 : Int32) 0 (nar .char r13)) + (own_con (1 : Int32) sa (0 : Int32) (nar .char r13) (nar .char r22))) + (own_con (2 : Int32) sa (0 : Int32) (nar .char r22) (nar .char r31))) + (own_con (3 : Int32) sa (0 : Int32) (nar .char r31) (nar .char r40))) + (own_con (4 : Int32) sa (0 : Int32) (nar .char r40) (nar .char r49))))] [])) _
      refine XS.iconst X94.here hx rfl (hb hby at_238) ?_
      show Steps p.tables e below (T94.setTop (mkF m 239 #[.val (.int p1), .val (.int p2), .val (.int p3), .val (.int p4), .val (.int p5), .val (.int p6), .val (.int (0 : Int32)), .val (.int sa), .val (.int cp), .val (.ref b8), .val (.ref b57), .val (.int (((((own_con (0 : Int32) sa (0 : Int32) 0 (nar .char r13)) + (own_con (1 : Int32) sa (0 : Int32) (nar .char r13) (nar .char r22))) + (own_con (2 : Int32) sa (0 : Int32) (nar .char r22) (nar .char r31))) + (own_con (3 : Int32) sa (0 : Int32) (nar .char r31) (nar .char r40))) + (own_con (4 : Int32) sa (0 : Int32) (nar .char r40) (nar .char r49))))] [(.int (1 : Int32))])) _
      refine XS.goto X94.here hx rfl (pc0 := 239) (pc' := 243) rfl (hb hby at_239) (by decide) (by decide) ?_
      show Steps p.tables e below (T94.setTop (mkF m 243 #[.val (.int p1), .val (.int p2), .val (.int p3), .val (.int p4), .val (.int p5), .val (.int p6), .val (.int (0 : Int32)), .val (.int sa), .val (.int cp), .val (.ref b8), .val (.ref b57), .val (.int (((((own_con (0 : Int32) sa (0 : Int32) 0 (nar .char r13)) + (own_con (1 : Int32) sa (0 : Int32) (nar .char r13) (nar .char r22))) + (own_con (2 : Int32) sa (0 : Int32) (nar .char r22) (nar .char r31))) + (own_con (3 : Int32) sa (0 : Int32) (nar .char r31) (nar .char r40))) + (own_con (4 : Int32) sa (0 : Int32) (nar .char r40) (nar .char r49))))] [(.int (1 : Int32))])) _
      exact retN X94 hx (t := .boolean) Bd.returns (by simp) (hb hby at_243) hr
    · show Q0 n0 _ T94.heap _
      rw [e94]
      exact ⟨rfl, N95⟩
  · have K97 : ∀ t, Steps p.tables e below (T65.setTop (mkF m 101 #[.val (.int p1), .val (.int p2), .val (.int p3), .val (.int p4), .val (.int p5), .val (.int p6), .val (.int (1 : Int32)), .val (.int sa), .val (.int cp), .val (.ref b8), .val (.ref b57), .unset] [(.int (0 : Int32)), (.ref b8), (.ref b57)])) t → Steps p.tables e below G t := by
      intro t k
      refine K72 t ?_
      show Steps p.tables e below (T65.setTop (mkF m 91 #[.val (.int p1), .val (.int p2), .val (.int p3), .val (.int p4), .val (.int p5), .val (.int p6), .val (.int (1 : Int32)), .val (.int sa), .val (.int cp), .val (.ref b8), .val (.ref b57), .unset] [])) _
      refine XS.iload X65.here hx rfl (hb hby at_91) rfl ?_
      show Steps p.tables e below (T65.setTop (mkF m 93 #[.val (.int p1), .val (.int p2), .val (.int p3), .val (.int p4), .val (.int p5), .val (.int p6), .val (.int (1 : Int32)), .val (.int sa), .val (.int cp), .val (.ref b8), .val (.ref b57), .unset] [(.int (1 : Int32))])) _
      refine XS.ifNo X65.here hx rfl (hb hby at_93) rfl ((if0 _ _).trans (tlt (by decide)).2.2.2) ?_
      show Steps p.tables e below (T65.setTop (mkF m 96 #[.val (.int p1), .val (.int p2), .val (.int p3), .val (.int p4), .val (.int p5), .val (.int p6), .val (.int (1 : Int32)), .val (.int sa), .val (.int cp), .val (.ref b8), .val (.ref b57), .unset] [])) _
      refine XS.aload X65.here hx rfl (hb hby at_96) rfl rfl ?_
      show Steps p.tables e below (T65.setTop (mkF m 98 #[.val (.int p1), .val (.int p2), .val (.int p3), .val (.int p4), .val (.int p5), .val (.int p6), .val (.int (1 : Int32)), .val (.int sa), .val (.int cp), .val (.ref b8), .val (.ref b57), .unset] [(.ref b57)])) _
      refine XS.aload X65.here hx rfl (hb hby at_98) rfl rfl ?_
      show Steps p.tables e below (T65.setTop (mkF m 100 #[.val (.int p1), .val (.int p2), .val (.int p3), .val (.int p4), .val (.int p5), .val (.int p6), .val (.int (1 : Int32)), .val (.int sa), .val (.int cp), .val (.ref b8), .val (.ref b57), .unset] [(.ref b8), (.ref b57)])) _
      refine XS.iconst X65.here hx rfl (hb hby at_100) ?_
      show Steps p.tables e below (T65.setTop (mkF m 101 #[.val (.int p1), .val (.int p2), .val (.int p3), .val (.int p4), .val (.int p5), .val (.int p6), .val (.int (1 : Int32)), .val (.int sa), .val (.int cp), .val (.ref b8), .val (.ref b57), .unset] [(.int (0 : Int32)), (.ref b8), (.ref b57)])) _
      exact k
    obtain ⟨cl98, Ar98, qc98, S98, M98, Ha98, Ga98⟩ := id f67
    have hin98 : ¬ ((0 : Int32) < 0 ∨ cl98.slots.size ≤ ((0 : Int32)).toNatClampNeg) := inb_of S98 ⟨by decide, by decide⟩
    have hat98 : cl98.slots[((0 : Int32)).toNatClampNeg]? = some (.int (nar .char r13)) := Ha98.at hin98 rfl
    have K99 : ∀ t, Steps p.tables e below (T65.setTop (mkF m 102 #[.val (.int p1), .val (.int p2), .val (.int p3), .val (.int p4), .val (.int p5), .val (.int p6), .val (.int (1 : Int32)), .val (.int sa), .val (.int cp), .val (.ref b8), .val (.ref b57), .unset] [(.int (nar .char r13)), (.ref b57)])) t → Steps p.tables e below G t := fun t k => K97 t (X65.caload hx (j := (0 : Int32)) (v := (.int (nar .char r13))) Ar98.1 (State.isArrayOf_alike hZ.alike Ar98.2.1) Ar98.2.2 hin98 hat98 (g := (mkF m 101 #[.val (.int p1), .val (.int p2), .val (.int p3), .val (.int p4), .val (.int p5), .val (.int p6), .val (.int (1 : Int32)), .val (.int sa), .val (.int cp), .val (.ref b8), .val (.ref b57), .unset] [(.int (0 : Int32)), (.ref b8), (.ref b57)])) rfl rfl (hb hby at_101) _ k)
    obtain ⟨cq100, kq100, q100a, q100b, q100c⟩ := isOf hZ rfl E65'
    obtain ⟨_, _, ⟨T100, L100, kk100, nn100⟩, -, X100, ⟨Lc100, hQ100, lq100, yq100, zq100⟩, st100⟩ := X65.virtualBack hx (y := (⟨"org/arborlog/pattern/LineText", "append", "(C)Lorg/arborlog/pattern/LineText;"⟩ : MethodName)) (z := (⟨"org/arborlog/pattern/LineText", "append", "(C)Lorg/arborlog/pattern/LineText;"⟩ : MethodName)) hown (mvT hZ (hw _ (List.mem_of_getElem? (i := 19) rfl))) (mvT hZ (hw _ (List.mem_of_getElem? (i := 20) rfl))) (notFace_of_selects (args := #[]) (mvT hZ (hw _ (List.mem_of_getElem? (i := 22) rfl)))) (mvT hZ (hw _ (List.mem_of_getElem? (i := 22) rfl))) (mvT hZ (hw _ (List.mem_of_getElem? (i := 21) rfl))) (by decide) (backOf (W := 0) (rm4 l Z a0 hw [] b57 (nar .char r13) b65 kb65 cp (0 : Int32) [] T65.heap n0 Z69 E65' Fc65 Fl65 Vb65 ne_b57_b65 g_b57 g_b65 ⟨by decide, by decide⟩ hc7.1 hc7.2.2) hZ (hw _ (List.mem_of_getElem? (i := 23) rfl)) (hw _ (List.mem_of_getElem? (i := 10) rfl)) (by decide) (by decide)) q100a q100c (g := (mkF m 102 #[.val (.int p1), .val (.int p2), .val (.int p3), .val (.int p4), .val (.int p5), .val (.int p6), .val (.int (1 : Int32)), .val (.int sa), .val (.int cp), .val (.ref b8), .val (.ref b57), .unset] [(.int (nar .char r13)), (.ref b57)])) rfl (by rw [hml]; rfl) (Steps.refl _) (argsL := [(.int (nar .char r13))]) (rest := []) (lenOf pd_10 rfl) rfl (by show 2 * 0 + _ ≤ _; exact Nat.le_of_eq rfl) (hb hby at_102) (fun _ _ => ⟨rfl, rfl, (by decide : 3 + 1 ≤ _), (by decide : 15 + 10 ≤ _)⟩)
    dsimp only [Pt.U, Pt.locs, Pt.cells, Pt.slots] at X100 lq100 yq100 zq100 st100 hQ100
    subst lq100 yq100 zq100
    obtain ⟨b100, kb100, zb100, vs100, rfl, Nq100, K100, ob100, E100', Fc100, Fl100, Vb100, hz100, hc100, hd100⟩ := hQ100
    have N101 := Fr.app N66 Nq100
    have gb100 : n0 ≤ b100 := ob100.elim (fun q => q ▸ g_b65) (fun q => Nat.le_trans Z69 q)
    have sz100 : h0.size ≤ b100 := ob100.elim (fun q => q ▸ sz_b65) (fun q => Nat.le_trans KP70.1 q)
    have ne_b8_b100 : b8 ≠ b100 := ob100.elim (fun q => q ▸ ne_b8_b65) (fun q => Nat.ne_of_lt (Nat.lt_of_lt_of_le f67.lt q))
    have ne_b57_b100 : b57 ≠ b100 := ob100.elim (fun q => q ▸ ne_b57_b65) (fun q => Nat.ne_of_lt (Nat.lt_of_lt_of_le E65'.lt q))
    have f102 := f67.keep K100 (ninS ne_b8_b57 (ninS ne_b8_b65 nin0))
    have f103 := E65'.keep K100
    have Z104 : n0 ≤ T100.heap.size := Nat.le_trans Z69 K100.1
    have KP105 : Keep h0 T100.heap [] := KP70.trans K100 (allS (Or.inr sz_b57) (allS (Or.inr sz_b65) all0))
    have f106 : Fld Z T100.heap b57 "org/arborlog/pattern/LineText" "length" "I" (.int (1 : Int32)) := Fl100
    have ct107 : vs100.getD 0 (Value.int (0 : Int32)) = .int (nar .char (nar .char r13)) := hd100
    have K108 : ∀ t, Steps p.tables e below (T100.setTop (mkF m 105 #[.val (.int p1), .val (.int p2), .val (.int p3), .val (.int p4), .val (.int p5), .val (.int p6), .val (.int (1 : Int32)), .val (.int sa), .val (.int cp), .val (.ref b8), .val (.ref b57), .unset] [(.ref b57)])) t → Steps p.tables e below G t := fun t k => K99 t (st100.trans k)
    have K109 : ∀ t, Steps p.tables e below (T100.setTop (mkF m 177 #[.val (.int p1), .val (.int p2), .val (.int p3), .val (.int p4), .val (.int p5), .val (.int p6), .val (.int (1 : Int32)), .val (.int sa), .val (.int cp), .val (.ref b8), .val (.ref b57), .unset] [(.int (1 : Int32)), (.int sa), (.int (0 : Int32)), (.ref b8)])) t → Steps p.tables e below G t := by
      intro t k
      refine K108 t ?_
      show Steps p.tables e below (T100.setTop (mkF m 105 #[.val (.int p1), .val (.int p2), .val (.int p3), .val (.int p4), .val (.int p5), .val (.int p6), .val (.int (1 : Int32)), .val (.int sa), .val (.int cp), .val (.ref b8), .val (.ref b57), .unset] [(.ref b57)])) _
      refine XS.pop X100.here hx rfl (hb hby at_105) rfl rfl ?_
      show Steps p.tables e below (T100.setTop (mkF m 106 #[.val (.int p1), .val (.int p2), .val (.int p3), .val (.int p4), .val (.int p5), .val (.int p6), .val (.int (1 : Int32)), .val (.int sa), .val (.int cp), .val (.ref b8), .val (.ref b57), .unset] [])) _
      refine XS.iload X100.here hx rfl (hb hby at_106) rfl ?_
      show Steps p.tables e below (T100.setTop (mkF m 108 #[.val (.int p1), .val (.int p2), .val (.int p3), .val (.int p4), .val (.int p5), .val (.int p6), .val (.int (1 : Int32)), .val (.int sa), .val (.int cp), .val (.ref b8), .val (.ref b57), .unset] [(.int (1 : Int32))])) _
      refine XS.iconst X100.here hx rfl (hb hby at_108) ?_
      show Steps p.tables e below (T100.setTop (mkF m 109 #[.val (.int p1), .val (.int p2), .val (.int p3), .val (.int p4), .val (.int p5), .val (.int p6), .val (.int (1 : Int32)), .val (.int sa), .val (.int cp), .val (.ref b8), .val (.ref b57), .unset] [(.int (1 : Int32)), (.int (1 : Int32))])) _
      refine XS.icmpYes X100.here hx rfl (pc0 := 109) (pc' := 122) rfl (hb hby at_109) rfl (flt (by decide)).2.2.2 (by decide) (by decide) ?_
      show Steps p.tables e below (T100.setTop (mkF m 122 #[.val (.int p1), .val (.int p2), .val (.int p3), .val (.int p4), .val (.int p5), .val (.int p6), .val (.int (1 : Int32)), .val (.int sa), .val (.int cp), .val (.ref b8), .val (.ref b57), .unset] [])) _
      refine XS.iload X100.here hx rfl (hb hby at_122) rfl ?_
      show Steps p.tables e below (T100.setTop (mkF m 124 #[.val (.int p1), .val (.int p2), .val (.int p3), .val (.int p4), .val (.int p5), .val (.int p6), .val (.int (1 : Int32)), .val (.int sa), .val (.int cp), .val (.ref b8), .val (.ref b57), .unset] [(.int (1 : Int32))])) _
      refine XS.iconst X100.here hx rfl (hb hby at_124) ?_
      show Steps p.tables e below (T100.setTop (mkF m 125 #[.val (.int p1), .val (.int p2), .val (.int p3), .val (.int p4), .val (.int p5), .val (.int p6), .val (.int (1 : Int32)), .val (.int sa), .val (.int cp), .val (.ref b8), .val (.ref b57), .unset] [(.int (2 : Int32)), (.int (1 : Int32))])) _
      refine XS.icmpYes X100.here hx rfl (pc0 := 125) (pc' := 138) rfl (hb hby at_125) rfl (flt (by decide)).2.2.2 (by decide) (by decide) ?_
      show Steps p.tables e below (T100.setTop (mkF m 138 #[.val (.int p1), .val (.int p2), .val (.int p3), .val (.int p4), .val (.int p5), .val (.int p6), .val (.int (1 : Int32)), .val (.int sa), .val (.int cp), .val (.ref b8), .val (.ref b57), .unset] [])) _
      refine XS.iload X100.here hx rfl (hb hby at_138) rfl ?_
      show Steps p.tables e below (T100.setTop (mkF m 140 #[.val (.int p1), .val (.int p2), .val (.int p3), .val (.int p4), .val (.int p5), .val (.int p6), .val (.int (1 : Int32)), .val (.int sa), .val (.int cp), .val (.ref b8), .val (.ref b57), .unset] [(.int (1 : Int32))])) _
      refine XS.iconst X100.here hx rfl (hb hby at_140) ?_
      show Steps p.tables e below (T100.setTop (mkF m 141 #[.val (.int p1), .val (.int p2), .val (.int p3), .val (.int p4), .val (.int p5), .val (.int p6), .val (.int (1 : Int32)), .val (.int sa), .val (.int cp), .val (.ref b8), .val (.ref b57), .unset] [(.int (3 : Int32)), (.int (1 : Int32))])) _
      refine XS.icmpYes X100.here hx rfl (pc0 := 141) (pc' := 154) rfl (hb hby at_141) rfl (flt (by decide)).2.2.2 (by decide) (by decide) ?_
      show Steps p.tables e below (T100.setTop (mkF m 154 #[.val (.int p1), .val (.int p2), .val (.int p3), .val (.int p4), .val (.int p5), .val (.int p6), .val (.int (1 : Int32)), .val (.int sa), .val (.int cp), .val (.ref b8), .val (.ref b57), .unset] [])) _
      refine XS.iload X100.here hx rfl (hb hby at_154) rfl ?_
      show Steps p.tables e below (T100.setTop (mkF m 156 #[.val (.int p1), .val (.int p2), .val (.int p3), .val (.int p4), .val (.int p5), .val (.int p6), .val (.int (1 : Int32)), .val (.int sa), .val (.int cp), .val (.ref b8), .val (.ref b57), .unset] [(.int (1 : Int32))])) _
      refine XS.iconst X100.here hx rfl (hb hby at_156) ?_
      show Steps p.tables e below (T100.setTop (mkF m 157 #[.val (.int p1), .val (.int p2), .val (.int p3), .val (.int p4), .val (.int p5), .val (.int p6), .val (.int (1 : Int32)), .val (.int sa), .val (.int cp), .val (.ref b8), .val (.ref b57), .unset] [(.int (4 : Int32)), (.int (1 : Int32))])) _
      refine XS.icmpYes X100.here hx rfl (pc0 := 157) (pc' := 170) rfl (hb hby at_157) rfl (flt (by decide)).2.2.2 (by decide) (by decide) ?_
      show Steps p.tables e below (T100.setTop (mkF m 170 #[.val (.int p1), .val (.int p2), .val (.int p3), .val (.int p4), .val (.int p5), .val (.int p6), .val (.int (1 : Int32)), .val (.int sa), .val (.int cp), .val (.ref b8), .val (.ref b57), .unset] [])) _
      refine XS.aload X100.here hx rfl (hb hby at_170) rfl rfl ?_
      show Steps p.tables e below (T100.setTop (mkF m 172 #[.val (.int p1), .val (.int p2), .val (.int p3), .val (.int p4), .val (.int p5), .val (.int p6), .val (.int (1 : Int32)), .val (.int sa), .val (.int cp), .val (.ref b8), .val (.ref b57), .unset] [(.ref b8)])) _
      refine XS.iconst X100.here hx rfl (hb hby at_172) ?_
      show Steps p.tables e below (T100.setTop (mkF m 173 #[.val (.int p1), .val (.int p2), .val (.int p3), .val (.int p4), .val (.int p5), .val (.int p6), .val (.int (1 : Int32)), .val (.int sa), .val (.int cp), .val (.ref b8), .val (.ref b57), .unset] [(.int (0 : Int32)), (.ref b8)])) _
      refine XS.iload X100.here hx rfl (hb hby at_173) rfl ?_
      show Steps p.tables e below (T100.setTop (mkF m 175 #[.val (.int p1), .val (.int p2), .val (.int p3), .val (.int p4), .val (.int p5), .val (.int p6), .val (.int (1 : Int32)), .val (.int sa), .val (.int cp), .val (.ref b8), .val (.ref b57), .unset] [(.int sa), (.int (0 : Int32)), (.ref b8)])) _
      refine XS.iload X100.here hx rfl (hb hby at_175) rfl ?_
      show Steps p.tables e below (T100.setTop (mkF m 177 #[.val (.int p1), .val (.int p2), .val (.int p3), .val (.int p4), .val (.int p5), .val (.int p6), .val (.int (1 : Int32)), .val (.int sa), .val (.int cp), .val (.ref b8), .val (.ref b57), .unset] [(.int (1 : Int32)), (.int sa), (.int (0 : Int32)), (.ref b8)])) _
      exact k
    obtain ⟨_, _, ⟨T110, L110, kk110, nn110⟩, -, X110, ⟨Lc110, hQ110, lq110, yq110, zq110⟩, st110⟩ := Jvm.LawKit.callS X100 hx (y := (⟨"org/arborlog/pattern/LineTextCodePointCountPinLaw", "contrib", "([CIII)I"⟩ : MethodName)) hown (mvT hZ (hw _ (List.mem_of_getElem? (i := 45) rfl))) (mvT hZ (hw _ (List.mem_of_getElem? (i := 46) rfl))) (mvT hZ (hw _ (List.mem_of_getElem? (i := 3) rfl))) (mvT hZ (hw _ (List.mem_of_getElem? (i := 47) rfl))) (by decide) (backOf (W := 0) (rm9 l Z a0 hw [] b8 (0 : Int32) sa (1 : Int32) kn8 [(.int (nar .char r13)), (.int (nar .char r22)), (.int (nar .char r31)), (.int (nar .char r40)), (.int (nar .char r49))] 0 (nar .char r13) T100.heap n0 Z104 f102 (fun q => absurd q hsa0) ⟨⟨by decide, by decide⟩, rfl⟩) hZ (hw _ (List.mem_of_getElem? (i := 47) rfl)) (hw _ (List.mem_of_getElem? (i := 3) rfl)) (by decide) (by decide)) (g := (mkF m 177 #[.val (.int p1), .val (.int p2), .val (.int p3), .val (.int p4), .val (.int p5), .val (.int p6), .val (.int (1 : Int32)), .val (.int sa), .val (.int cp), .val (.ref b8), .val (.ref b57), .unset] [(.int (1 : Int32)), (.int sa), (.int (0 : Int32)), (.ref b8)])) rfl (by rw [hml]; rfl) (argsL := [(.ref b8), (.int (0 : Int32)), (.int sa), (.int (1 : Int32))]) (rest := []) (lenOf pd_8 rfl) rfl (by show 2 * 0 + _ ≤ _; exact Nat.le_of_eq rfl) (hb hby at_177) (fun _ _ => ⟨rfl, rfl, (by decide : 4 + 0 ≤ _), (by decide : 25 + 0 ≤ _)⟩)
    dsimp only [Pt.U, Pt.locs, Pt.cells, Pt.slots] at X110 lq110 yq110 zq110 st110 hQ110
    subst lq110 yq110 zq110
    obtain ⟨rfl, Nq110, e110⟩ := hQ110
    have N111 := Fr.app N101 Nq110
    have K112 : ∀ t, Steps p.tables e below (T110.setTop (mkF m 180 #[.val (.int p1), .val (.int p2), .val (.int p3), .val (.int p4), .val (.int p5), .val (.int p6), .val (.int (1 : Int32)), .val (.int sa), .val (.int cp), .val (.ref b8), .val (.ref b57), .unset] [(.int (own_con (0 : Int32) sa (1 : Int32) 0 (nar .char r13)))])) t → Steps p.tables e below G t := fun t k => K109 t (st110 _ k)
    have K113 : ∀ t, Steps p.tables e below (T110.setTop (mkF m 187 #[.val (.int p1), .val (.int p2), .val (.int p3), .val (.int p4), .val (.int p5), .val (.int p6), .val (.int (1 : Int32)), .val (.int sa), .val (.int cp), .val (.ref b8), .val (.ref b57), .unset] [(.int (1 : Int32)), (.int sa), (.int (1 : Int32)), (.ref b8), (.int (own_con (0 : Int32) sa (1 : Int32) 0 (nar .char r13)))])) t → Steps p.tables e below G t := by
      intro t k
      refine K112 t ?_
      show Steps p.tables e below (T110.setTop (mkF m 180 #[.val (.int p1), .val (.int p2), .val (.int p3), .val (.int p4), .val (.int p5), .val (.int p6), .val (.int (1 : Int32)), .val (.int sa), .val (.int cp), .val (.ref b8), .val (.ref b57), .unset] [(.int (own_con (0 : Int32) sa (1 : Int32) 0 (nar .char r13)))])) _
      refine XS.aload X110.here hx rfl (hb hby at_180) rfl rfl ?_
      show Steps p.tables e below (T110.setTop (mkF m 182 #[.val (.int p1), .val (.int p2), .val (.int p3), .val (.int p4), .val (.int p5), .val (.int p6), .val (.int (1 : Int32)), .val (.int sa), .val (.int cp), .val (.ref b8), .val (.ref b57), .unset] [(.ref b8), (.int (own_con (0 : Int32) sa (1 : Int32) 0 (nar .char r13)))])) _
      refine XS.iconst X110.here hx rfl (hb hby at_182) ?_
      show Steps p.tables e below (T110.setTop (mkF m 183 #[.val (.int p1), .val (.int p2), .val (.int p3), .val (.int p4), .val (.int p5), .val (.int p6), .val (.int (1 : Int32)), .val (.int sa), .val (.int cp), .val (.ref b8), .val (.ref b57), .unset] [(.int (1 : Int32)), (.ref b8), (.int (own_con (0 : Int32) sa (1 : Int32) 0 (nar .char r13)))])) _
      refine XS.iload X110.here hx rfl (hb hby at_183) rfl ?_
      show Steps p.tables e below (T110.setTop (mkF m 185 #[.val (.int p1), .val (.int p2), .val (.int p3), .val (.int p4), .val (.int p5), .val (.int p6), .val (.int (1 : Int32)), .val (.int sa), .val (.int cp), .val (.ref b8), .val (.ref b57), .unset] [(.int sa), (.int (1 : Int32)), (.ref b8), (.int (own_con (0 : Int32) sa (1 : Int32) 0 (nar .char r13)))])) _
      refine XS.iload X110.here hx rfl (hb hby at_185) rfl ?_
      show Steps p.tables e below (T110.setTop (mkF m 187 #[.val (.int p1), .val (.int p2), .val (.int p3), .val (.int p4), .val (.int p5), .val (.int p6), .val (.int (1 : Int32)), .val (.int sa), .val (.int cp), .val (.ref b8), .val (.ref b57), .unset] [(.int (1 : Int32)), (.int sa), (.int (1 : Int32)), (.ref b8), (.int (own_con (0 : Int32) sa (1 : Int32) 0 (nar .char r13)))])) _
      exact k
    obtain ⟨_, _, ⟨T114, L114, kk114, nn114⟩, -, X114, ⟨Lc114, hQ114, lq114, yq114, zq114⟩, st114⟩ := Jvm.LawKit.callS X110 hx (y := (⟨"org/arborlog/pattern/LineTextCodePointCountPinLaw", "contrib", "([CIII)I"⟩ : MethodName)) hown (mvT hZ (hw _ (List.mem_of_getElem? (i := 45) rfl))) (mvT hZ (hw _ (List.mem_of_getElem? (i := 46) rfl))) (mvT hZ (hw _ (List.mem_of_getElem? (i := 3) rfl))) (mvT hZ (hw _ (List.mem_of_getElem? (i := 47) rfl))) (by decide) (backOf (W := 1) (rm9 l Z a0 hw [] b8 (1 : Int32) sa (1 : Int32) kn8 [(.int (nar .char r13)), (.int (nar .char r22)), (.int (nar .char r31)), (.int (nar .char r40)), (.int (nar .char r49))] (nar .char r13) (nar .char r22) T100.heap n0 Z104 f102 (fun _ => ⟨⟨by decide, by decide⟩, rfl⟩) ⟨⟨by decide, by decide⟩, rfl⟩) hZ (hw _ (List.mem_of_getElem? (i := 47) rfl)) (hw _ (List.mem_of_getElem? (i := 3) rfl)) (by decide) (by decide)) (g := (mkF m 187 #[.val (.int p1), .val (.int p2), .val (.int p3), .val (.int p4), .val (.int p5), .val (.int p6), .val (.int (1 : Int32)), .val (.int sa), .val (.int cp), .val (.ref b8), .val (.ref b57), .unset] [(.int (1 : Int32)), (.int sa), (.int (1 : Int32)), (.ref b8), (.int (own_con (0 : Int32) sa (1 : Int32) 0 (nar .char r13)))])) rfl (by rw [hml]; rfl) (argsL := [(.ref b8), (.int (1 : Int32)), (.int sa), (.int (1 : Int32))]) (rest := [(.int (own_con (0 : Int32) sa (1 : Int32) 0 (nar .char r13)))]) (lenOf pd_8 rfl) rfl (by show 2 * 0 + _ ≤ _; exact Nat.le_of_eq rfl) (hb hby at_187) (fun _ _ => ⟨rfl, e110, (by decide : 4 + 0 ≤ _), (by decide : 25 + 0 ≤ _)⟩)
    dsimp only [Pt.U, Pt.locs, Pt.cells, Pt.slots] at X114 lq114 yq114 zq114 st114 hQ114
    subst lq114 yq114 zq114
    obtain ⟨rfl, Nq114, e114⟩ := hQ114
    have N115 := Fr.app N111 Nq114
    have K116 : ∀ t, Steps p.tables e below (T114.setTop (mkF m 190 #[.val (.int p1), .val (.int p2), .val (.int p3), .val (.int p4), .val (.int p5), .val (.int p6), .val (.int (1 : Int32)), .val (.int sa), .val (.int cp), .val (.ref b8), .val (.ref b57), .unset] [(.int (own_con (1 : Int32) sa (1 : Int32) (nar .char r13) (nar .char r22))), (.int (own_con (0 : Int32) sa (1 : Int32) 0 (nar .char r13)))])) t → Steps p.tables e below G t := fun t k => K113 t (st114 _ k)
    have K117 : ∀ t, Steps p.tables e below (T114.setTop (mkF m 198 #[.val (.int p1), .val (.int p2), .val (.int p3), .val (.int p4), .val (.int p5), .val (.int p6), .val (.int (1 : Int32)), .val (.int sa), .val (.int cp), .val (.ref b8), .val (.ref b57), .unset] [(.int (1 : Int32)), (.int sa), (.int (2 : Int32)), (.ref b8), (.int ((own_con (0 : Int32) sa (1 : Int32) 0 (nar .char r13)) + (own_con (1 : Int32) sa (1 : Int32) (nar .char r13) (nar .char r22))))])) t → Steps p.tables e below G t := by
      intro t k
      refine K116 t ?_
      show Steps p.tables e below (T114.setTop (mkF m 190 #[.val (.int p1), .val (.int p2), .val (.int p3), .val (.int p4), .val (.int p5), .val (.int p6), .val (.int (1 : Int32)), .val (.int sa), .val (.int cp), .val (.ref b8), .val (.ref b57), .unset] [(.int (own_con (1 : Int32) sa (1 : Int32) (nar .char r13) (nar .char r22))), (.int (own_con (0 : Int32) sa (1 : Int32) 0 (nar .char r13)))])) _
      refine XS.iadd X114.here hx rfl (hb hby at_190) rfl ?_
      show Steps p.tables e below (T114.setTop (mkF m 191 #[.val (.int p1), .val (.int p2), .val (.int p3), .val (.int p4), .val (.int p5), .val (.int p6), .val (.int (1 : Int32)), .val (.int sa), .val (.int cp), .val (.ref b8), .val (.ref b57), .unset] [(.int ((own_con (0 : Int32) sa (1 : Int32) 0 (nar .char r13)) + (own_con (1 : Int32) sa (1 : Int32) (nar .char r13) (nar .char r22))))])) _
      refine XS.aload X114.here hx rfl (hb hby at_191) rfl rfl ?_
      show Steps p.tables e below (T114.setTop (mkF m 193 #[.val (.int p1), .val (.int p2), .val (.int p3), .val (.int p4), .val (.int p5), .val (.int p6), .val (.int (1 : Int32)), .val (.int sa), .val (.int cp), .val (.ref b8), .val (.ref b57), .unset] [(.ref b8), (.int ((own_con (0 : Int32) sa (1 : Int32) 0 (nar .char r13)) + (own_con (1 : Int32) sa (1 : Int32) (nar .char r13) (nar .char r22))))])) _
      refine XS.iconst X114.here hx rfl (hb hby at_193) ?_
      show Steps p.tables e below (T114.setTop (mkF m 194 #[.val (.int p1), .val (.int p2), .val (.int p3), .val (.int p4), .val (.int p5), .val (.int p6), .val (.int (1 : Int32)), .val (.int sa), .val (.int cp), .val (.ref b8), .val (.ref b57), .unset] [(.int (2 : Int32)), (.ref b8), (.int ((own_con (0 : Int32) sa (1 : Int32) 0 (nar .char r13)) + (own_con (1 : Int32) sa (1 : Int32) (nar .char r13) (nar .char r22))))])) _
      refine XS.iload X114.here hx rfl (hb hby at_194) rfl ?_
      show Steps p.tables e below (T114.setTop (mkF m 196 #[.val (.int p1), .val (.int p2), .val (.int p3), .val (.int p4), .val (.int p5), .val (.int p6), .val (.int (1 : Int32)), .val (.int sa), .val (.int cp), .val (.ref b8), .val (.ref b57), .unset] [(.int sa), (.int (2 : Int32)), (.ref b8), (.int ((own_con (0 : Int32) sa (1 : Int32) 0 (nar .char r13)) + (own_con (1 : Int32) sa (1 : Int32) (nar .char r13) (nar .char r22))))])) _
      refine XS.iload X114.here hx rfl (hb hby at_196) rfl ?_
      show Steps p.tables e below (T114.setTop (mkF m 198 #[.val (.int p1), .val (.int p2), .val (.int p3), .val (.int p4), .val (.int p5), .val (.int p6), .val (.int (1 : Int32)), .val (.int sa), .val (.int cp), .val (.ref b8), .val (.ref b57), .unset] [(.int (1 : Int32)), (.int sa), (.int (2 : Int32)), (.ref b8), (.int ((own_con (0 : Int32) sa (1 : Int32) 0 (nar .char r13)) + (own_con (1 : Int32) sa (1 : Int32) (nar .char r13) (nar .char r22))))])) _
      exact k
    obtain ⟨_, _, ⟨T118, L118, kk118, nn118⟩, -, X118, ⟨Lc118, hQ118, lq118, yq118, zq118⟩, st118⟩ := Jvm.LawKit.callS X114 hx (y := (⟨"org/arborlog/pattern/LineTextCodePointCountPinLaw", "contrib", "([CIII)I"⟩ : MethodName)) hown (mvT hZ (hw _ (List.mem_of_getElem? (i := 45) rfl))) (mvT hZ (hw _ (List.mem_of_getElem? (i := 46) rfl))) (mvT hZ (hw _ (List.mem_of_getElem? (i := 3) rfl))) (mvT hZ (hw _ (List.mem_of_getElem? (i := 47) rfl))) (by decide) (backOf (W := 1) (rm9 l Z a0 hw [] b8 (2 : Int32) sa (1 : Int32) kn8 [(.int (nar .char r13)), (.int (nar .char r22)), (.int (nar .char r31)), (.int (nar .char r40)), (.int (nar .char r49))] (nar .char r22) (nar .char r31) T100.heap n0 Z104 f102 (fun _ => ⟨⟨by decide, by decide⟩, rfl⟩) ⟨⟨by decide, by decide⟩, rfl⟩) hZ (hw _ (List.mem_of_getElem? (i := 47) rfl)) (hw _ (List.mem_of_getElem? (i := 3) rfl)) (by decide) (by decide)) (g := (mkF m 198 #[.val (.int p1), .val (.int p2), .val (.int p3), .val (.int p4), .val (.int p5), .val (.int p6), .val (.int (1 : Int32)), .val (.int sa), .val (.int cp), .val (.ref b8), .val (.ref b57), .unset] [(.int (1 : Int32)), (.int sa), (.int (2 : Int32)), (.ref b8), (.int ((own_con (0 : Int32) sa (1 : Int32) 0 (nar .char r13)) + (own_con (1 : Int32) sa (1 : Int32) (nar .char r13) (nar .char r22))))])) rfl (by rw [hml]; rfl) (argsL := [(.ref b8), (.int (2 : Int32)), (.int sa), (.int (1 : Int32))]) (rest := [(.int ((own_con (0 : Int32) sa (1 : Int32) 0 (nar .char r13)) + (own_con (1 : Int32) sa (1 : Int32) (nar .char r13) (nar .char r22))))]) (lenOf pd_8 rfl) rfl (by show 2 * 0 + _ ≤ _; exact Nat.le_of_eq rfl) (hb hby at_198) (fun _ _ => ⟨rfl, e114, (by decide : 4 + 0 ≤ _), (by decide : 25 + 0 ≤ _)⟩)
    dsimp only [Pt.U, Pt.locs, Pt.cells, Pt.slots] at X118 lq118 yq118 zq118 st118 hQ118
    subst lq118 yq118 zq118
    obtain ⟨rfl, Nq118, e118⟩ := hQ118
    have N119 := Fr.app N115 Nq118
    have K120 : ∀ t, Steps p.tables e below (T118.setTop (mkF m 201 #[.val (.int p1), .val (.int p2), .val (.int p3), .val (.int p4), .val (.int p5), .val (.int p6), .val (.int (1 : Int32)), .val (.int sa), .val (.int cp), .val (.ref b8), .val (.ref b57), .unset] [(.int (own_con (2 : Int32) sa (1 : Int32) (nar .char r22) (nar .char r31))), (.int ((own_con (0 : Int32) sa (1 : Int32) 0 (nar .char r13)) + (own_con (1 : Int32) sa (1 : Int32) (nar .char r13) (nar .char r22))))])) t → Steps p.tables e below G t := fun t k => K117 t (st118 _ k)
    have K121 : ∀ t, Steps p.tables e below (T118.setTop (mkF m 209 #[.val (.int p1), .val (.int p2), .val (.int p3), .val (.int p4), .val (.int p5), .val (.int p6), .val (.int (1 : Int32)), .val (.int sa), .val (.int cp), .val (.ref b8), .val (.ref b57), .unset] [(.int (1 : Int32)), (.int sa), (.int (3 : Int32)), (.ref b8), (.int (((own_con (0 : Int32) sa (1 : Int32) 0 (nar .char r13)) + (own_con (1 : Int32) sa (1 : Int32) (nar .char r13) (nar .char r22))) + (own_con (2 : Int32) sa (1 : Int32) (nar .char r22) (nar .char r31))))])) t → Steps p.tables e below G t := by
      intro t k
      refine K120 t ?_
      show Steps p.tables e below (T118.setTop (mkF m 201 #[.val (.int p1), .val (.int p2), .val (.int p3), .val (.int p4), .val (.int p5), .val (.int p6), .val (.int (1 : Int32)), .val (.int sa), .val (.int cp), .val (.ref b8), .val (.ref b57), .unset] [(.int (own_con (2 : Int32) sa (1 : Int32) (nar .char r22) (nar .char r31))), (.int ((own_con (0 : Int32) sa (1 : Int32) 0 (nar .char r13)) + (own_con (1 : Int32) sa (1 : Int32) (nar .char r13) (nar .char r22))))])) _
      refine XS.iadd X118.here hx rfl (hb hby at_201) rfl ?_
      show Steps p.tables e below (T118.setTop (mkF m 202 #[.val (.int p1), .val (.int p2), .val (.int p3), .val (.int p4), .val (.int p5), .val (.int p6), .val (.int (1 : Int32)), .val (.int sa), .val (.int cp), .val (.ref b8), .val (.ref b57), .unset] [(.int (((own_con (0 : Int32) sa (1 : Int32) 0 (nar .char r13)) + (own_con (1 : Int32) sa (1 : Int32) (nar .char r13) (nar .char r22))) + (own_con (2 : Int32) sa (1 : Int32) (nar .char r22) (nar .char r31))))])) _
      refine XS.aload X118.here hx rfl (hb hby at_202) rfl rfl ?_
      show Steps p.tables e below (T118.setTop (mkF m 204 #[.val (.int p1), .val (.int p2), .val (.int p3), .val (.int p4), .val (.int p5), .val (.int p6), .val (.int (1 : Int32)), .val (.int sa), .val (.int cp), .val (.ref b8), .val (.ref b57), .unset] [(.ref b8), (.int (((own_con (0 : Int32) sa (1 : Int32) 0 (nar .char r13)) + (own_con (1 : Int32) sa (1 : Int32) (nar .char r13) (nar .char r22))) + (own_con (2 : Int32) sa (1 : Int32) (nar .char r22) (nar .char r31))))])) _
      refine XS.iconst X118.here hx rfl (hb hby at_204) ?_
      show Steps p.tables e below (T118.setTop (mkF m 205 #[.val (.int p1), .val (.int p2), .val (.int p3), .val (.int p4), .val (.int p5), .val (.int p6), .val (.int (1 : Int32)), .val (.int sa), .val (.int cp), .val (.ref b8), .val (.ref b57), .unset] [(.int (3 : Int32)), (.ref b8), (.int (((own_con (0 : Int32) sa (1 : Int32) 0 (nar .char r13)) + (own_con (1 : Int32) sa (1 : Int32) (nar .char r13) (nar .char r22))) + (own_con (2 : Int32) sa (1 : Int32) (nar .char r22) (nar .char r31))))])) _
      refine XS.iload X118.here hx rfl (hb hby at_205) rfl ?_
      show Steps p.tables e below (T118.setTop (mkF m 207 #[.val (.int p1), .val (.int p2), .val (.int p3), .val (.int p4), .val (.int p5), .val (.int p6), .val (.int (1 : Int32)), .val (.int sa), .val (.int cp), .val (.ref b8), .val (.ref b57), .unset] [(.int sa), (.int (3 : Int32)), (.ref b8), (.int (((own_con (0 : Int32) sa (1 : Int32) 0 (nar .char r13)) + (own_con (1 : Int32) sa (1 : Int32) (nar .char r13) (nar .char r22))) + (own_con (2 : Int32) sa (1 : Int32) (nar .char r22) (nar .char r31))))])) _
      refine XS.iload X118.here hx rfl (hb hby at_207) rfl ?_
      show Steps p.tables e below (T118.setTop (mkF m 209 #[.val (.int p1), .val (.int p2), .val (.int p3), .val (.int p4), .val (.int p5), .val (.int p6), .val (.int (1 : Int32)), .val (.int sa), .val (.int cp), .val (.ref b8), .val (.ref b57), .unset] [(.int (1 : Int32)), (.int sa), (.int (3 : Int32)), (.ref b8), (.int (((own_con (0 : Int32) sa (1 : Int32) 0 (nar .char r13)) + (own_con (1 : Int32) sa (1 : Int32) (nar .char r13) (nar .char r22))) + (own_con (2 : Int32) sa (1 : Int32) (nar .char r22) (nar .char r31))))])) _
      exact k
    obtain ⟨_, _, ⟨T122, L122, kk122, nn122⟩, -, X122, ⟨Lc122, hQ122, lq122, yq122, zq122⟩, st122⟩ := Jvm.LawKit.callS X118 hx (y := (⟨"org/arborlog/pattern/LineTextCodePointCountPinLaw", "contrib", "([CIII)I"⟩ : MethodName)) hown (mvT hZ (hw _ (List.mem_of_getElem? (i := 45) rfl))) (mvT hZ (hw _ (List.mem_of_getElem? (i := 46) rfl))) (mvT hZ (hw _ (List.mem_of_getElem? (i := 3) rfl))) (mvT hZ (hw _ (List.mem_of_getElem? (i := 47) rfl))) (by decide) (backOf (W := 1) (rm9 l Z a0 hw [] b8 (3 : Int32) sa (1 : Int32) kn8 [(.int (nar .char r13)), (.int (nar .char r22)), (.int (nar .char r31)), (.int (nar .char r40)), (.int (nar .char r49))] (nar .char r31) (nar .char r40) T100.heap n0 Z104 f102 (fun _ => ⟨⟨by decide, by decide⟩, rfl⟩) ⟨⟨by decide, by decide⟩, rfl⟩) hZ (hw _ (List.mem_of_getElem? (i := 47) rfl)) (hw _ (List.mem_of_getElem? (i := 3) rfl)) (by decide) (by decide)) (g := (mkF m 209 #[.val (.int p1), .val (.int p2), .val (.int p3), .val (.int p4), .val (.int p5), .val (.int p6), .val (.int (1 : Int32)), .val (.int sa), .val (.int cp), .val (.ref b8), .val (.ref b57), .unset] [(.int (1 : Int32)), (.int sa), (.int (3 : Int32)), (.ref b8), (.int (((own_con (0 : Int32) sa (1 : Int32) 0 (nar .char r13)) + (own_con (1 : Int32) sa (1 : Int32) (nar .char r13) (nar .char r22))) + (own_con (2 : Int32) sa (1 : Int32) (nar .char r22) (nar .char r31))))])) rfl (by rw [hml]; rfl) (argsL := [(.ref b8), (.int (3 : Int32)), (.int sa), (.int (1 : Int32))]) (rest := [(.int (((own_con (0 : Int32) sa (1 : Int32) 0 (nar .char r13)) + (own_con (1 : Int32) sa (1 : Int32) (nar .char r13) (nar .char r22))) + (own_con (2 : Int32) sa (1 : Int32) (nar .char r22) (nar .char r31))))]) (lenOf pd_8 rfl) rfl (by show 2 * 0 + _ ≤ _; exact Nat.le_of_eq rfl) (hb hby at_209) (fun _ _ => ⟨rfl, e118, (by decide : 4 + 0 ≤ _), (by decide : 25 + 0 ≤ _)⟩)
    dsimp only [Pt.U, Pt.locs, Pt.cells, Pt.slots] at X122 lq122 yq122 zq122 st122 hQ122
    subst lq122 yq122 zq122
    obtain ⟨rfl, Nq122, e122⟩ := hQ122
    have N123 := Fr.app N119 Nq122
    have K124 : ∀ t, Steps p.tables e below (T122.setTop (mkF m 212 #[.val (.int p1), .val (.int p2), .val (.int p3), .val (.int p4), .val (.int p5), .val (.int p6), .val (.int (1 : Int32)), .val (.int sa), .val (.int cp), .val (.ref b8), .val (.ref b57), .unset] [(.int (own_con (3 : Int32) sa (1 : Int32) (nar .char r31) (nar .char r40))), (.int (((own_con (0 : Int32) sa (1 : Int32) 0 (nar .char r13)) + (own_con (1 : Int32) sa (1 : Int32) (nar .char r13) (nar .char r22))) + (own_con (2 : Int32) sa (1 : Int32) (nar .char r22) (nar .char r31))))])) t → Steps p.tables e below G t := fun t k => K121 t (st122 _ k)
    have K125 : ∀ t, Steps p.tables e below (T122.setTop (mkF m 220 #[.val (.int p1), .val (.int p2), .val (.int p3), .val (.int p4), .val (.int p5), .val (.int p6), .val (.int (1 : Int32)), .val (.int sa), .val (.int cp), .val (.ref b8), .val (.ref b57), .unset] [(.int (1 : Int32)), (.int sa), (.int (4 : Int32)), (.ref b8), (.int ((((own_con (0 : Int32) sa (1 : Int32) 0 (nar .char r13)) + (own_con (1 : Int32) sa (1 : Int32) (nar .char r13) (nar .char r22))) + (own_con (2 : Int32) sa (1 : Int32) (nar .char r22) (nar .char r31))) + (own_con (3 : Int32) sa (1 : Int32) (nar .char r31) (nar .char r40))))])) t → Steps p.tables e below G t := by
      intro t k
      refine K124 t ?_
      show Steps p.tables e below (T122.setTop (mkF m 212 #[.val (.int p1), .val (.int p2), .val (.int p3), .val (.int p4), .val (.int p5), .val (.int p6), .val (.int (1 : Int32)), .val (.int sa), .val (.int cp), .val (.ref b8), .val (.ref b57), .unset] [(.int (own_con (3 : Int32) sa (1 : Int32) (nar .char r31) (nar .char r40))), (.int (((own_con (0 : Int32) sa (1 : Int32) 0 (nar .char r13)) + (own_con (1 : Int32) sa (1 : Int32) (nar .char r13) (nar .char r22))) + (own_con (2 : Int32) sa (1 : Int32) (nar .char r22) (nar .char r31))))])) _
      refine XS.iadd X122.here hx rfl (hb hby at_212) rfl ?_
      show Steps p.tables e below (T122.setTop (mkF m 213 #[.val (.int p1), .val (.int p2), .val (.int p3), .val (.int p4), .val (.int p5), .val (.int p6), .val (.int (1 : Int32)), .val (.int sa), .val (.int cp), .val (.ref b8), .val (.ref b57), .unset] [(.int ((((own_con (0 : Int32) sa (1 : Int32) 0 (nar .char r13)) + (own_con (1 : Int32) sa (1 : Int32) (nar .char r13) (nar .char r22))) + (own_con (2 : Int32) sa (1 : Int32) (nar .char r22) (nar .char r31))) + (own_con (3 : Int32) sa (1 : Int32) (nar .char r31) (nar .char r40))))])) _
      refine XS.aload X122.here hx rfl (hb hby at_213) rfl rfl ?_
      show Steps p.tables e below (T122.setTop (mkF m 215 #[.val (.int p1), .val (.int p2), .val (.int p3), .val (.int p4), .val (.int p5), .val (.int p6), .val (.int (1 : Int32)), .val (.int sa), .val (.int cp), .val (.ref b8), .val (.ref b57), .unset] [(.ref b8), (.int ((((own_con (0 : Int32) sa (1 : Int32) 0 (nar .char r13)) + (own_con (1 : Int32) sa (1 : Int32) (nar .char r13) (nar .char r22))) + (own_con (2 : Int32) sa (1 : Int32) (nar .char r22) (nar .char r31))) + (own_con (3 : Int32) sa (1 : Int32) (nar .char r31) (nar .char r40))))])) _
      refine XS.iconst X122.here hx rfl (hb hby at_215) ?_
      show Steps p.tables e below (T122.setTop (mkF m 216 #[.val (.int p1), .val (.int p2), .val (.int p3), .val (.int p4), .val (.int p5), .val (.int p6), .val (.int (1 : Int32)), .val (.int sa), .val (.int cp), .val (.ref b8), .val (.ref b57), .unset] [(.int (4 : Int32)), (.ref b8), (.int ((((own_con (0 : Int32) sa (1 : Int32) 0 (nar .char r13)) + (own_con (1 : Int32) sa (1 : Int32) (nar .char r13) (nar .char r22))) + (own_con (2 : Int32) sa (1 : Int32) (nar .char r22) (nar .char r31))) + (own_con (3 : Int32) sa (1 : Int32) (nar .char r31) (nar .char r40))))])) _
      refine XS.iload X122.here hx rfl (hb hby at_216) rfl ?_
      show Steps p.tables e below (T122.setTop (mkF m 218 #[.val (.int p1), .val (.int p2), .val (.int p3), .val (.int p4), .val (.int p5), .val (.int p6), .val (.int (1 : Int32)), .val (.int sa), .val (.int cp), .val (.ref b8), .val (.ref b57), .unset] [(.int sa), (.int (4 : Int32)), (.ref b8), (.int ((((own_con (0 : Int32) sa (1 : Int32) 0 (nar .char r13)) + (own_con (1 : Int32) sa (1 : Int32) (nar .char r13) (nar .char r22))) + (own_con (2 : Int32) sa (1 : Int32) (nar .char r22) (nar .char r31))) + (own_con (3 : Int32) sa (1 : Int32) (nar .char r31) (nar .char r40))))])) _
      refine XS.iload X122.here hx rfl (hb hby at_218) rfl ?_
      show Steps p.tables e below (T122.setTop (mkF m 220 #[.val (.int p1), .val (.int p2), .val (.int p3), .val (.int p4), .val (.int p5), .val (.int p6), .val (.int (1 : Int32)), .val (.int sa), .val (.int cp), .val (.ref b8), .val (.ref b57), .unset] [(.int (1 : Int32)), (.int sa), (.int (4 : Int32)), (.ref b8), (.int ((((own_con (0 : Int32) sa (1 : Int32) 0 (nar .char r13)) + (own_con (1 : Int32) sa (1 : Int32) (nar .char r13) (nar .char r22))) + (own_con (2 : Int32) sa (1 : Int32) (nar .char r22) (nar .char r31))) + (own_con (3 : Int32) sa (1 : Int32) (nar .char r31) (nar .char r40))))])) _
      exact k
    obtain ⟨_, _, ⟨T126, L126, kk126, nn126⟩, -, X126, ⟨Lc126, hQ126, lq126, yq126, zq126⟩, st126⟩ := Jvm.LawKit.callS X122 hx (y := (⟨"org/arborlog/pattern/LineTextCodePointCountPinLaw", "contrib", "([CIII)I"⟩ : MethodName)) hown (mvT hZ (hw _ (List.mem_of_getElem? (i := 45) rfl))) (mvT hZ (hw _ (List.mem_of_getElem? (i := 46) rfl))) (mvT hZ (hw _ (List.mem_of_getElem? (i := 3) rfl))) (mvT hZ (hw _ (List.mem_of_getElem? (i := 47) rfl))) (by decide) (backOf (W := 1) (rm9 l Z a0 hw [] b8 (4 : Int32) sa (1 : Int32) kn8 [(.int (nar .char r13)), (.int (nar .char r22)), (.int (nar .char r31)), (.int (nar .char r40)), (.int (nar .char r49))] (nar .char r40) (nar .char r49) T100.heap n0 Z104 f102 (fun _ => ⟨⟨by decide, by decide⟩, rfl⟩) ⟨⟨by decide, by decide⟩, rfl⟩) hZ (hw _ (List.mem_of_getElem? (i := 47) rfl)) (hw _ (List.mem_of_getElem? (i := 3) rfl)) (by decide) (by decide)) (g := (mkF m 220 #[.val (.int p1), .val (.int p2), .val (.int p3), .val (.int p4), .val (.int p5), .val (.int p6), .val (.int (1 : Int32)), .val (.int sa), .val (.int cp), .val (.ref b8), .val (.ref b57), .unset] [(.int (1 : Int32)), (.int sa), (.int (4 : Int32)), (.ref b8), (.int ((((own_con (0 : Int32) sa (1 : Int32) 0 (nar .char r13)) + (own_con (1 : Int32) sa (1 : Int32) (nar .char r13) (nar .char r22))) + (own_con (2 : Int32) sa (1 : Int32) (nar .char r22) (nar .char r31))) + (own_con (3 : Int32) sa (1 : Int32) (nar .char r31) (nar .char r40))))])) rfl (by rw [hml]; rfl) (argsL := [(.ref b8), (.int (4 : Int32)), (.int sa), (.int (1 : Int32))]) (rest := [(.int ((((own_con (0 : Int32) sa (1 : Int32) 0 (nar .char r13)) + (own_con (1 : Int32) sa (1 : Int32) (nar .char r13) (nar .char r22))) + (own_con (2 : Int32) sa (1 : Int32) (nar .char r22) (nar .char r31))) + (own_con (3 : Int32) sa (1 : Int32) (nar .char r31) (nar .char r40))))]) (lenOf pd_8 rfl) rfl (by show 2 * 0 + _ ≤ _; exact Nat.le_of_eq rfl) (hb hby at_220) (fun _ _ => ⟨rfl, e122, (by decide : 4 + 0 ≤ _), (by decide : 25 + 0 ≤ _)⟩)
    dsimp only [Pt.U, Pt.locs, Pt.cells, Pt.slots] at X126 lq126 yq126 zq126 st126 hQ126
    subst lq126 yq126 zq126
    obtain ⟨rfl, Nq126, e126⟩ := hQ126
    have N127 := Fr.app N123 Nq126
    have K128 : ∀ t, Steps p.tables e below (T126.setTop (mkF m 223 #[.val (.int p1), .val (.int p2), .val (.int p3), .val (.int p4), .val (.int p5), .val (.int p6), .val (.int (1 : Int32)), .val (.int sa), .val (.int cp), .val (.ref b8), .val (.ref b57), .unset] [(.int (own_con (4 : Int32) sa (1 : Int32) (nar .char r40) (nar .char r49))), (.int ((((own_con (0 : Int32) sa (1 : Int32) 0 (nar .char r13)) + (own_con (1 : Int32) sa (1 : Int32) (nar .char r13) (nar .char r22))) + (own_con (2 : Int32) sa (1 : Int32) (nar .char r22) (nar .char r31))) + (own_con (3 : Int32) sa (1 : Int32) (nar .char r31) (nar .char r40))))])) t → Steps p.tables e below G t := fun t k => K125 t (st126 _ k)
    have K129 : ∀ t, Steps p.tables e below (T126.setTop (mkF m 230 #[.val (.int p1), .val (.int p2), .val (.int p3), .val (.int p4), .val (.int p5), .val (.int p6), .val (.int (1 : Int32)), .val (.int sa), .val (.int cp), .val (.ref b8), .val (.ref b57), .val (.int (((((own_con (0 : Int32) sa (1 : Int32) 0 (nar .char r13)) + (own_con (1 : Int32) sa (1 : Int32) (nar .char r13) (nar .char r22))) + (own_con (2 : Int32) sa (1 : Int32) (nar .char r22) (nar .char r31))) + (own_con (3 : Int32) sa (1 : Int32) (nar .char r31) (nar .char r40))) + (own_con (4 : Int32) sa (1 : Int32) (nar .char r40) (nar .char r49))))] [(.int sa), (.ref b57)])) t → Steps p.tables e below G t := by
      intro t k
      refine K128 t ?_
      show Steps p.tables e below (T126.setTop (mkF m 223 #[.val (.int p1), .val (.int p2), .val (.int p3), .val (.int p4), .val (.int p5), .val (.int p6), .val (.int (1 : Int32)), .val (.int sa), .val (.int cp), .val (.ref b8), .val (.ref b57), .unset] [(.int (own_con (4 : Int32) sa (1 : Int32) (nar .char r40) (nar .char r49))), (.int ((((own_con (0 : Int32) sa (1 : Int32) 0 (nar .char r13)) + (own_con (1 : Int32) sa (1 : Int32) (nar .char r13) (nar .char r22))) + (own_con (2 : Int32) sa (1 : Int32) (nar .char r22) (nar .char r31))) + (own_con (3 : Int32) sa (1 : Int32) (nar .char r31) (nar .char r40))))])) _
      refine XS.iadd X126.here hx rfl (hb hby at_223) rfl ?_
      show Steps p.tables e below (T126.setTop (mkF m 224 #[.val (.int p1), .val (.int p2), .val (.int p3), .val (.int p4), .val (.int p5), .val (.int p6), .val (.int (1 : Int32)), .val (.int sa), .val (.int cp), .val (.ref b8), .val (.ref b57), .unset] [(.int (((((own_con (0 : Int32) sa (1 : Int32) 0 (nar .char r13)) + (own_con (1 : Int32) sa (1 : Int32) (nar .char r13) (nar .char r22))) + (own_con (2 : Int32) sa (1 : Int32) (nar .char r22) (nar .char r31))) + (own_con (3 : Int32) sa (1 : Int32) (nar .char r31) (nar .char r40))) + (own_con (4 : Int32) sa (1 : Int32) (nar .char r40) (nar .char r49))))])) _
      refine XS.istore X126.here hx rfl (hb hby at_224) rfl (l' := #[.val (.int p1), .val (.int p2), .val (.int p3), .val (.int p4), .val (.int p5), .val (.int p6), .val (.int (1 : Int32)), .val (.int sa), .val (.int cp), .val (.ref b8), .val (.ref b57), .val (.int (((((own_con (0 : Int32) sa (1 : Int32) 0 (nar .char r13)) + (own_con (1 : Int32) sa (1 : Int32) (nar .char r13) (nar .char r22))) + (own_con (2 : Int32) sa (1 : Int32) (nar .char r22) (nar .char r31))) + (own_con (3 : Int32) sa (1 : Int32) (nar .char r31) (nar .char r40))) + (own_con (4 : Int32) sa (1 : Int32) (nar .char r40) (nar .char r49))))]) rfl ?_
      show Steps p.tables e below (T126.setTop (mkF m 226 #[.val (.int p1), .val (.int p2), .val (.int p3), .val (.int p4), .val (.int p5), .val (.int p6), .val (.int (1 : Int32)), .val (.int sa), .val (.int cp), .val (.ref b8), .val (.ref b57), .val (.int (((((own_con (0 : Int32) sa (1 : Int32) 0 (nar .char r13)) + (own_con (1 : Int32) sa (1 : Int32) (nar .char r13) (nar .char r22))) + (own_con (2 : Int32) sa (1 : Int32) (nar .char r22) (nar .char r31))) + (own_con (3 : Int32) sa (1 : Int32) (nar .char r31) (nar .char r40))) + (own_con (4 : Int32) sa (1 : Int32) (nar .char r40) (nar .char r49))))] [])) _
      refine XS.aload X126.here hx rfl (hb hby at_226) rfl rfl ?_
      show Steps p.tables e below (T126.setTop (mkF m 228 #[.val (.int p1), .val (.int p2), .val (.int p3), .val (.int p4), .val (.int p5), .val (.int p6), .val (.int (1 : Int32)), .val (.int sa), .val (.int cp), .val (.ref b8), .val (.ref b57), .val (.int (((((own_con (0 : Int32) sa (1 : Int32) 0 (nar .char r13)) + (own_con (1 : Int32) sa (1 : Int32) (nar .char r13) (nar .char r22))) + (own_con (2 : Int32) sa (1 : Int32) (nar .char r22) (nar .char r31))) + (own_con (3 : Int32) sa (1 : Int32) (nar .char r31) (nar .char r40))) + (own_con (4 : Int32) sa (1 : Int32) (nar .char r40) (nar .char r49))))] [(.ref b57)])) _
      refine XS.iload X126.here hx rfl (hb hby at_228) rfl ?_
      show Steps p.tables e below (T126.setTop (mkF m 230 #[.val (.int p1), .val (.int p2), .val (.int p3), .val (.int p4), .val (.int p5), .val (.int p6), .val (.int (1 : Int32)), .val (.int sa), .val (.int cp), .val (.ref b8), .val (.ref b57), .val (.int (((((own_con (0 : Int32) sa (1 : Int32) 0 (nar .char r13)) + (own_con (1 : Int32) sa (1 : Int32) (nar .char r13) (nar .char r22))) + (own_con (2 : Int32) sa (1 : Int32) (nar .char r22) (nar .char r31))) + (own_con (3 : Int32) sa (1 : Int32) (nar .char r31) (nar .char r40))) + (own_con (4 : Int32) sa (1 : Int32) (nar .char r40) (nar .char r49))))] [(.int sa), (.ref b57)])) _
      exact k
    obtain ⟨hp, hse⟩ := own_hp (by decide) hsa hz100.1
    have hf : ∀ j : Nat, j < (sa + ((1 : Int32) - sa)).toNatClampNeg → vs100.getD j (Value.int (0 : Int32)) = .int ((fun j => ([(nar .char r13), (nar .char r22), (nar .char r31), (nar .char r40), (nar .char r49)] : List Int32).getD j 0) j) := fun j hj => by
      rw [hse] at hj
      have hj' : j < 1 := hj
      match j, hj' with
      | 0, _ => exact ct107.trans (congrArg Value.int (own_nar _))
      | j + 1, h => exact absurd h (by omega)
    obtain ⟨cq130, kq130, q130a, q130b, q130c⟩ := isOf hZ e126 E100'
    obtain ⟨_, _, ⟨T130, L130, kk130, nn130⟩, -, X130, ⟨Lc130, hQ130, lq130, yq130, zq130⟩, st130⟩ := X126.virtualBack hx (y := (⟨"org/arborlog/pattern/LineText", "codePointCount", "(I)I"⟩ : MethodName)) (z := (⟨"org/arborlog/pattern/LineText", "codePointCount", "(I)I"⟩ : MethodName)) hown (mvT hZ (hw _ (List.mem_of_getElem? (i := 51) rfl))) (mvT hZ (hw _ (List.mem_of_getElem? (i := 52) rfl))) (notFace_of_selects (args := #[]) (mvT hZ (hw _ (List.mem_of_getElem? (i := 54) rfl)))) (mvT hZ (hw _ (List.mem_of_getElem? (i := 54) rfl))) (mvT hZ (hw _ (List.mem_of_getElem? (i := 53) rfl))) (by decide) (backOf (W := 0) (rm11 l Z a0 hw [] b57 sa b100 (1 : Int32) kb100 zb100 vs100 (fun j => ([(nar .char r13), (nar .char r22), (nar .char r31), (nar .char r40), (nar .char r49)] : List Int32).getD j 0) T100.heap n0 Z104 Fc100 f106 Vb100 hp hf) hZ (hw _ (List.mem_of_getElem? (i := 55) rfl)) (hw _ (List.mem_of_getElem? (i := 10) rfl)) (by decide) (by decide)) q130a q130c (g := (mkF m 230 #[.val (.int p1), .val (.int p2), .val (.int p3), .val (.int p4), .val (.int p5), .val (.int p6), .val (.int (1 : Int32)), .val (.int sa), .val (.int cp), .val (.ref b8), .val (.ref b57), .val (.int (((((own_con (0 : Int32) sa (1 : Int32) 0 (nar .char r13)) + (own_con (1 : Int32) sa (1 : Int32) (nar .char r13) (nar .char r22))) + (own_con (2 : Int32) sa (1 : Int32) (nar .char r22) (nar .char r31))) + (own_con (3 : Int32) sa (1 : Int32) (nar .char r31) (nar .char r40))) + (own_con (4 : Int32) sa (1 : Int32) (nar .char r40) (nar .char r49))))] [(.int sa), (.ref b57)])) rfl (by rw [hml]; rfl) (Steps.refl _) (argsL := [(.int sa)]) (rest := []) (lenOf pd_9 rfl) rfl (by show 2 * 0 + _ ≤ _; exact Nat.le_of_eq rfl) (hb hby at_230) (fun _ _ => ⟨rfl, e126, (by decide : 4 + 0 ≤ _), (by decide : 25 + 0 ≤ _)⟩)
    dsimp only [Pt.U, Pt.locs, Pt.cells, Pt.slots] at X130 lq130 yq130 zq130 st130 hQ130
    subst lq130 yq130 zq130
    obtain ⟨rfl, Nq130, e130⟩ := hQ130
    have N131 := Fr.app N127 Nq130
    have K132 : ∀ t, Steps p.tables e below (T130.setTop (mkF m 233 #[.val (.int p1), .val (.int p2), .val (.int p3), .val (.int p4), .val (.int p5), .val (.int p6), .val (.int (1 : Int32)), .val (.int sa), .val (.int cp), .val (.ref b8), .val (.ref b57), .val (.int (((((own_con (0 : Int32) sa (1 : Int32) 0 (nar .char r13)) + (own_con (1 : Int32) sa (1 : Int32) (nar .char r13) (nar .char r22))) + (own_con (2 : Int32) sa (1 : Int32) (nar .char r22) (nar .char r31))) + (own_con (3 : Int32) sa (1 : Int32) (nar .char r31) (nar .char r40))) + (own_con (4 : Int32) sa (1 : Int32) (nar .char r40) (nar .char r49))))] [(.int (((1 : Int32) - sa) - own_pr (fun j => ([(nar .char r13), (nar .char r22), (nar .char r31), (nar .char r40), (nar .char r49)] : List Int32).getD j 0) ((1 : Int32) - sa).toNatClampNeg sa.toNatClampNeg))])) t → Steps p.tables e below G t := fun t k => K129 t (st130.trans k)
    have hfin : (((1 : Int32) - sa) - own_pr (fun j => ([(nar .char r13), (nar .char r22), (nar .char r31), (nar .char r40), (nar .char r49)] : List Int32).getD j 0) ((1 : Int32) - sa).toNatClampNeg sa.toNatClampNeg) = (((((own_con (0 : Int32) sa (1 : Int32) 0 (nar .char r13)) + (own_con (1 : Int32) sa (1 : Int32) (nar .char r13) (nar .char r22))) + (own_con (2 : Int32) sa (1 : Int32) (nar .char r22) (nar .char r31))) + (own_con (3 : Int32) sa (1 : Int32) (nar .char r31) (nar .char r40))) + (own_con (4 : Int32) sa (1 : Int32) (nar .char r40) (nar .char r49))) := by
      rcases own_n6 (n := sa) ⟨hsa.1, Int.le_trans hsa.2 (by decide)⟩ with q | q | q | q | q | q <;> rw [q] at hsa ⊢
      · exact own_fin_1_0 _ _ _ _ _ _ rfl rfl rfl rfl rfl
      · exact own_fin_1_1 _ _ _ _ _ _ rfl rfl rfl rfl rfl
      · exact absurd hsa.2 (by decide)
      · exact absurd hsa.2 (by decide)
      · exact absurd hsa.2 (by decide)
      · exact absurd hsa.2 (by decide)
    obtain ⟨fs, hr, hrun, hended, hW, hsame⟩ := X130.leave (v := some (.int (1 : Int32))) (fun h => by rw [Bd.returns] at h; cases h)
    have KF := K132
    rw [hG] at KF
    refine ⟨_, _, KF _ ?_, hrun, hended, _, _, rfl, ?_, ⟨_, rfl⟩, hW, hsame.mono (by decide) (by decide)⟩
    · show Steps p.tables e below (T130.setTop (mkF m 233 #[.val (.int p1), .val (.int p2), .val (.int p3), .val (.int p4), .val (.int p5), .val (.int p6), .val (.int (1 : Int32)), .val (.int sa), .val (.int cp), .val (.ref b8), .val (.ref b57), .val (.int (((((own_con (0 : Int32) sa (1 : Int32) 0 (nar .char r13)) + (own_con (1 : Int32) sa (1 : Int32) (nar .char r13) (nar .char r22))) + (own_con (2 : Int32) sa (1 : Int32) (nar .char r22) (nar .char r31))) + (own_con (3 : Int32) sa (1 : Int32) (nar .char r31) (nar .char r40))) + (own_con (4 : Int32) sa (1 : Int32) (nar .char r40) (nar .char r49))))] [(.int (((1 : Int32) - sa) - own_pr (fun j => ([(nar .char r13), (nar .char r22), (nar .char r31), (nar .char r40), (nar .char r49)] : List Int32).getD j 0) ((1 : Int32) - sa).toNatClampNeg sa.toNatClampNeg))])) _
      refine XS.iload X130.here hx rfl (hb hby at_233) rfl ?_
      show Steps p.tables e below (T130.setTop (mkF m 235 #[.val (.int p1), .val (.int p2), .val (.int p3), .val (.int p4), .val (.int p5), .val (.int p6), .val (.int (1 : Int32)), .val (.int sa), .val (.int cp), .val (.ref b8), .val (.ref b57), .val (.int (((((own_con (0 : Int32) sa (1 : Int32) 0 (nar .char r13)) + (own_con (1 : Int32) sa (1 : Int32) (nar .char r13) (nar .char r22))) + (own_con (2 : Int32) sa (1 : Int32) (nar .char r22) (nar .char r31))) + (own_con (3 : Int32) sa (1 : Int32) (nar .char r31) (nar .char r40))) + (own_con (4 : Int32) sa (1 : Int32) (nar .char r40) (nar .char r49))))] [(.int (((((own_con (0 : Int32) sa (1 : Int32) 0 (nar .char r13)) + (own_con (1 : Int32) sa (1 : Int32) (nar .char r13) (nar .char r22))) + (own_con (2 : Int32) sa (1 : Int32) (nar .char r22) (nar .char r31))) + (own_con (3 : Int32) sa (1 : Int32) (nar .char r31) (nar .char r40))) + (own_con (4 : Int32) sa (1 : Int32) (nar .char r40) (nar .char r49)))), (.int (((1 : Int32) - sa) - own_pr (fun j => ([(nar .char r13), (nar .char r22), (nar .char r31), (nar .char r40), (nar .char r49)] : List Int32).getD j 0) ((1 : Int32) - sa).toNatClampNeg sa.toNatClampNeg))])) _
      refine XS.icmpNo X130.here hx rfl (hb hby at_235) rfl (teq hfin).2 ?_
      show Steps p.tables e below (T130.setTop (mkF m 238 #[.val (.int p1), .val (.int p2), .val (.int p3), .val (.int p4), .val (.int p5), .val (.int p6), .val (.int (1 : Int32)), .val (.int sa), .val (.int cp), .val (.ref b8), .val (.ref b57), .val (.int (((((own_con (0 : Int32) sa (1 : Int32) 0 (nar .char r13)) + (own_con (1 : Int32) sa (1 : Int32) (nar .char r13) (nar .char r22))) + (own_con (2 : Int32) sa (1 : Int32) (nar .char r22) (nar .char r31))) + (own_con (3 : Int32) sa (1 : Int32) (nar .char r31) (nar .char r40))) + (own_con (4 : Int32) sa (1 : Int32) (nar .char r40) (nar .char r49))))] [])) _
      refine XS.iconst X130.here hx rfl (hb hby at_238) ?_
      show Steps p.tables e below (T130.setTop (mkF m 239 #[.val (.int p1), .val (.int p2), .val (.int p3), .val (.int p4), .val (.int p5), .val (.int p6), .val (.int (1 : Int32)), .val (.int sa), .val (.int cp), .val (.ref b8), .val (.ref b57), .val (.int (((((own_con (0 : Int32) sa (1 : Int32) 0 (nar .char r13)) + (own_con (1 : Int32) sa (1 : Int32) (nar .char r13) (nar .char r22))) + (own_con (2 : Int32) sa (1 : Int32) (nar .char r22) (nar .char r31))) + (own_con (3 : Int32) sa (1 : Int32) (nar .char r31) (nar .char r40))) + (own_con (4 : Int32) sa (1 : Int32) (nar .char r40) (nar .char r49))))] [(.int (1 : Int32))])) _
      refine XS.goto X130.here hx rfl (pc0 := 239) (pc' := 243) rfl (hb hby at_239) (by decide) (by decide) ?_
      show Steps p.tables e below (T130.setTop (mkF m 243 #[.val (.int p1), .val (.int p2), .val (.int p3), .val (.int p4), .val (.int p5), .val (.int p6), .val (.int (1 : Int32)), .val (.int sa), .val (.int cp), .val (.ref b8), .val (.ref b57), .val (.int (((((own_con (0 : Int32) sa (1 : Int32) 0 (nar .char r13)) + (own_con (1 : Int32) sa (1 : Int32) (nar .char r13) (nar .char r22))) + (own_con (2 : Int32) sa (1 : Int32) (nar .char r22) (nar .char r31))) + (own_con (3 : Int32) sa (1 : Int32) (nar .char r31) (nar .char r40))) + (own_con (4 : Int32) sa (1 : Int32) (nar .char r40) (nar .char r49))))] [(.int (1 : Int32))])) _
      exact retN X130 hx (t := .boolean) Bd.returns (by simp) (hb hby at_243) hr
    · show Q0 n0 _ T130.heap _
      rw [e130]
      exact ⟨rfl, N131⟩
  · have K133 : ∀ t, Steps p.tables e below (T65.setTop (mkF m 101 #[.val (.int p1), .val (.int p2), .val (.int p3), .val (.int p4), .val (.int p5), .val (.int p6), .val (.int (2 : Int32)), .val (.int sa), .val (.int cp), .val (.ref b8), .val (.ref b57), .unset] [(.int (0 : Int32)), (.ref b8), (.ref b57)])) t → Steps p.tables e below G t := by
      intro t k
      refine K72 t ?_
      show Steps p.tables e below (T65.setTop (mkF m 91 #[.val (.int p1), .val (.int p2), .val (.int p3), .val (.int p4), .val (.int p5), .val (.int p6), .val (.int (2 : Int32)), .val (.int sa), .val (.int cp), .val (.ref b8), .val (.ref b57), .unset] [])) _
      refine XS.iload X65.here hx rfl (hb hby at_91) rfl ?_
      show Steps p.tables e below (T65.setTop (mkF m 93 #[.val (.int p1), .val (.int p2), .val (.int p3), .val (.int p4), .val (.int p5), .val (.int p6), .val (.int (2 : Int32)), .val (.int sa), .val (.int cp), .val (.ref b8), .val (.ref b57), .unset] [(.int (2 : Int32))])) _
      refine XS.ifNo X65.here hx rfl (hb hby at_93) rfl ((if0 _ _).trans (tlt (by decide)).2.2.2) ?_
      show Steps p.tables e below (T65.setTop (mkF m 96 #[.val (.int p1), .val (.int p2), .val (.int p3), .val (.int p4), .val (.int p5), .val (.int p6), .val (.int (2 : Int32)), .val (.int sa), .val (.int cp), .val (.ref b8), .val (.ref b57), .unset] [])) _
      refine XS.aload X65.here hx rfl (hb hby at_96) rfl rfl ?_
      show Steps p.tables e below (T65.setTop (mkF m 98 #[.val (.int p1), .val (.int p2), .val (.int p3), .val (.int p4), .val (.int p5), .val (.int p6), .val (.int (2 : Int32)), .val (.int sa), .val (.int cp), .val (.ref b8), .val (.ref b57), .unset] [(.ref b57)])) _
      refine XS.aload X65.here hx rfl (hb hby at_98) rfl rfl ?_
      show Steps p.tables e below (T65.setTop (mkF m 100 #[.val (.int p1), .val (.int p2), .val (.int p3), .val (.int p4), .val (.int p5), .val (.int p6), .val (.int (2 : Int32)), .val (.int sa), .val (.int cp), .val (.ref b8), .val (.ref b57), .unset] [(.ref b8), (.ref b57)])) _
      refine XS.iconst X65.here hx rfl (hb hby at_100) ?_
      show Steps p.tables e below (T65.setTop (mkF m 101 #[.val (.int p1), .val (.int p2), .val (.int p3), .val (.int p4), .val (.int p5), .val (.int p6), .val (.int (2 : Int32)), .val (.int sa), .val (.int cp), .val (.ref b8), .val (.ref b57), .unset] [(.int (0 : Int32)), (.ref b8), (.ref b57)])) _
      exact k
    obtain ⟨cl134, Ar134, qc134, S134, M134, Ha134, Ga134⟩ := id f67
    have hin134 : ¬ ((0 : Int32) < 0 ∨ cl134.slots.size ≤ ((0 : Int32)).toNatClampNeg) := inb_of S134 ⟨by decide, by decide⟩
    have hat134 : cl134.slots[((0 : Int32)).toNatClampNeg]? = some (.int (nar .char r13)) := Ha134.at hin134 rfl
    have K135 : ∀ t, Steps p.tables e below (T65.setTop (mkF m 102 #[.val (.int p1), .val (.int p2), .val (.int p3), .val (.int p4), .val (.int p5), .val (.int p6), .val (.int (2 : Int32)), .val (.int sa), .val (.int cp), .val (.ref b8), .val (.ref b57), .unset] [(.int (nar .char r13)), (.ref b57)])) t → Steps p.tables e below G t := fun t k => K133 t (X65.caload hx (j := (0 : Int32)) (v := (.int (nar .char r13))) Ar134.1 (State.isArrayOf_alike hZ.alike Ar134.2.1) Ar134.2.2 hin134 hat134 (g := (mkF m 101 #[.val (.int p1), .val (.int p2), .val (.int p3), .val (.int p4), .val (.int p5), .val (.int p6), .val (.int (2 : Int32)), .val (.int sa), .val (.int cp), .val (.ref b8), .val (.ref b57), .unset] [(.int (0 : Int32)), (.ref b8), (.ref b57)])) rfl rfl (hb hby at_101) _ k)
    obtain ⟨cq136, kq136, q136a, q136b, q136c⟩ := isOf hZ rfl E65'
    obtain ⟨_, _, ⟨T136, L136, kk136, nn136⟩, -, X136, ⟨Lc136, hQ136, lq136, yq136, zq136⟩, st136⟩ := X65.virtualBack hx (y := (⟨"org/arborlog/pattern/LineText", "append", "(C)Lorg/arborlog/pattern/LineText;"⟩ : MethodName)) (z := (⟨"org/arborlog/pattern/LineText", "append", "(C)Lorg/arborlog/pattern/LineText;"⟩ : MethodName)) hown (mvT hZ (hw _ (List.mem_of_getElem? (i := 19) rfl))) (mvT hZ (hw _ (List.mem_of_getElem? (i := 20) rfl))) (notFace_of_selects (args := #[]) (mvT hZ (hw _ (List.mem_of_getElem? (i := 22) rfl)))) (mvT hZ (hw _ (List.mem_of_getElem? (i := 22) rfl))) (mvT hZ (hw _ (List.mem_of_getElem? (i := 21) rfl))) (by decide) (backOf (W := 0) (rm4 l Z a0 hw [] b57 (nar .char r13) b65 kb65 cp (0 : Int32) [] T65.heap n0 Z69 E65' Fc65 Fl65 Vb65 ne_b57_b65 g_b57 g_b65 ⟨by decide, by decide⟩ hc7.1 hc7.2.2) hZ (hw _ (List.mem_of_getElem? (i := 23) rfl)) (hw _ (List.mem_of_getElem? (i := 10) rfl)) (by decide) (by decide)) q136a q136c (g := (mkF m 102 #[.val (.int p1), .val (.int p2), .val (.int p3), .val (.int p4), .val (.int p5), .val (.int p6), .val (.int (2 : Int32)), .val (.int sa), .val (.int cp), .val (.ref b8), .val (.ref b57), .unset] [(.int (nar .char r13)), (.ref b57)])) rfl (by rw [hml]; rfl) (Steps.refl _) (argsL := [(.int (nar .char r13))]) (rest := []) (lenOf pd_10 rfl) rfl (by show 2 * 0 + _ ≤ _; exact Nat.le_of_eq rfl) (hb hby at_102) (fun _ _ => ⟨rfl, rfl, (by decide : 3 + 1 ≤ _), (by decide : 15 + 10 ≤ _)⟩)
    dsimp only [Pt.U, Pt.locs, Pt.cells, Pt.slots] at X136 lq136 yq136 zq136 st136 hQ136
    subst lq136 yq136 zq136
    obtain ⟨b136, kb136, zb136, vs136, rfl, Nq136, K136, ob136, E136', Fc136, Fl136, Vb136, hz136, hc136, hd136⟩ := hQ136
    have N137 := Fr.app N66 Nq136
    have gb136 : n0 ≤ b136 := ob136.elim (fun q => q ▸ g_b65) (fun q => Nat.le_trans Z69 q)
    have sz136 : h0.size ≤ b136 := ob136.elim (fun q => q ▸ sz_b65) (fun q => Nat.le_trans KP70.1 q)
    have ne_b8_b136 : b8 ≠ b136 := ob136.elim (fun q => q ▸ ne_b8_b65) (fun q => Nat.ne_of_lt (Nat.lt_of_lt_of_le f67.lt q))
    have ne_b57_b136 : b57 ≠ b136 := ob136.elim (fun q => q ▸ ne_b57_b65) (fun q => Nat.ne_of_lt (Nat.lt_of_lt_of_le E65'.lt q))
    have f138 := f67.keep K136 (ninS ne_b8_b57 (ninS ne_b8_b65 nin0))
    have f139 := E65'.keep K136
    have Z140 : n0 ≤ T136.heap.size := Nat.le_trans Z69 K136.1
    have KP141 : Keep h0 T136.heap [] := KP70.trans K136 (allS (Or.inr sz_b57) (allS (Or.inr sz_b65) all0))
    have f142 : Fld Z T136.heap b57 "org/arborlog/pattern/LineText" "length" "I" (.int (1 : Int32)) := Fl136
    have ct143 : vs136.getD 0 (Value.int (0 : Int32)) = .int (nar .char (nar .char r13)) := hd136
    have K144 : ∀ t, Steps p.tables e below (T136.setTop (mkF m 105 #[.val (.int p1), .val (.int p2), .val (.int p3), .val (.int p4), .val (.int p5), .val (.int p6), .val (.int (2 : Int32)), .val (.int sa), .val (.int cp), .val (.ref b8), .val (.ref b57), .unset] [(.ref b57)])) t → Steps p.tables e below G t := fun t k => K135 t (st136.trans k)
    have K145 : ∀ t, Steps p.tables e below (T136.setTop (mkF m 117 #[.val (.int p1), .val (.int p2), .val (.int p3), .val (.int p4), .val (.int p5), .val (.int p6), .val (.int (2 : Int32)), .val (.int sa), .val (.int cp), .val (.ref b8), .val (.ref b57), .unset] [(.int (1 : Int32)), (.ref b8), (.ref b57)])) t → Steps p.tables e below G t := by
      intro t k
      refine K144 t ?_
      show Steps p.tables e below (T136.setTop (mkF m 105 #[.val (.int p1), .val (.int p2), .val (.int p3), .val (.int p4), .val (.int p5), .val (.int p6), .val (.int (2 : Int32)), .val (.int sa), .val (.int cp), .val (.ref b8), .val (.ref b57), .unset] [(.ref b57)])) _
      refine XS.pop X136.here hx rfl (hb hby at_105) rfl rfl ?_
      show Steps p.tables e below (T136.setTop (mkF m 106 #[.val (.int p1), .val (.int p2), .val (.int p3), .val (.int p4), .val (.int p5), .val (.int p6), .val (.int (2 : Int32)), .val (.int sa), .val (.int cp), .val (.ref b8), .val (.ref b57), .unset] [])) _
      refine XS.iload X136.here hx rfl (hb hby at_106) rfl ?_
      show Steps p.tables e below (T136.setTop (mkF m 108 #[.val (.int p1), .val (.int p2), .val (.int p3), .val (.int p4), .val (.int p5), .val (.int p6), .val (.int (2 : Int32)), .val (.int sa), .val (.int cp), .val (.ref b8), .val (.ref b57), .unset] [(.int (2 : Int32))])) _
      refine XS.iconst X136.here hx rfl (hb hby at_108) ?_
      show Steps p.tables e below (T136.setTop (mkF m 109 #[.val (.int p1), .val (.int p2), .val (.int p3), .val (.int p4), .val (.int p5), .val (.int p6), .val (.int (2 : Int32)), .val (.int sa), .val (.int cp), .val (.ref b8), .val (.ref b57), .unset] [(.int (1 : Int32)), (.int (2 : Int32))])) _
      refine XS.icmpNo X136.here hx rfl (hb hby at_109) rfl (tlt (by decide)).2.2.2 ?_
      show Steps p.tables e below (T136.setTop (mkF m 112 #[.val (.int p1), .val (.int p2), .val (.int p3), .val (.int p4), .val (.int p5), .val (.int p6), .val (.int (2 : Int32)), .val (.int sa), .val (.int cp), .val (.ref b8), .val (.ref b57), .unset] [])) _
      refine XS.aload X136.here hx rfl (hb hby at_112) rfl rfl ?_
      show Steps p.tables e below (T136.setTop (mkF m 114 #[.val (.int p1), .val (.int p2), .val (.int p3), .val (.int p4), .val (.int p5), .val (.int p6), .val (.int (2 : Int32)), .val (.int sa), .val (.int cp), .val (.ref b8), .val (.ref b57), .unset] [(.ref b57)])) _
      refine XS.aload X136.here hx rfl (hb hby at_114) rfl rfl ?_
      show Steps p.tables e below (T136.setTop (mkF m 116 #[.val (.int p1), .val (.int p2), .val (.int p3), .val (.int p4), .val (.int p5), .val (.int p6), .val (.int (2 : Int32)), .val (.int sa), .val (.int cp), .val (.ref b8), .val (.ref b57), .unset] [(.ref b8), (.ref b57)])) _
      refine XS.iconst X136.here hx rfl (hb hby at_116) ?_
      show Steps p.tables e below (T136.setTop (mkF m 117 #[.val (.int p1), .val (.int p2), .val (.int p3), .val (.int p4), .val (.int p5), .val (.int p6), .val (.int (2 : Int32)), .val (.int sa), .val (.int cp), .val (.ref b8), .val (.ref b57), .unset] [(.int (1 : Int32)), (.ref b8), (.ref b57)])) _
      exact k
    obtain ⟨cl146, Ar146, qc146, S146, M146, Ha146, Ga146⟩ := id f138
    have hin146 : ¬ ((1 : Int32) < 0 ∨ cl146.slots.size ≤ ((1 : Int32)).toNatClampNeg) := inb_of S146 ⟨by decide, by decide⟩
    have hat146 : cl146.slots[((1 : Int32)).toNatClampNeg]? = some (.int (nar .char r22)) := Ha146.at hin146 rfl
    have K147 : ∀ t, Steps p.tables e below (T136.setTop (mkF m 118 #[.val (.int p1), .val (.int p2), .val (.int p3), .val (.int p4), .val (.int p5), .val (.int p6), .val (.int (2 : Int32)), .val (.int sa), .val (.int cp), .val (.ref b8), .val (.ref b57), .unset] [(.int (nar .char r22)), (.ref b57)])) t → Steps p.tables e below G t := fun t k => K145 t (X136.caload hx (j := (1 : Int32)) (v := (.int (nar .char r22))) Ar146.1 (State.isArrayOf_alike hZ.alike Ar146.2.1) Ar146.2.2 hin146 hat146 (g := (mkF m 117 #[.val (.int p1), .val (.int p2), .val (.int p3), .val (.int p4), .val (.int p5), .val (.int p6), .val (.int (2 : Int32)), .val (.int sa), .val (.int cp), .val (.ref b8), .val (.ref b57), .unset] [(.int (1 : Int32)), (.ref b8), (.ref b57)])) rfl rfl (hb hby at_117) _ k)
    obtain ⟨cq148, kq148, q148a, q148b, q148c⟩ := isOf hZ rfl E136'
    obtain ⟨_, _, ⟨T148, L148, kk148, nn148⟩, -, X148, ⟨Lc148, hQ148, lq148, yq148, zq148⟩, st148⟩ := X136.virtualBack hx (y := (⟨"org/arborlog/pattern/LineText", "append", "(C)Lorg/arborlog/pattern/LineText;"⟩ : MethodName)) (z := (⟨"org/arborlog/pattern/LineText", "append", "(C)Lorg/arborlog/pattern/LineText;"⟩ : MethodName)) hown (mvT hZ (hw _ (List.mem_of_getElem? (i := 19) rfl))) (mvT hZ (hw _ (List.mem_of_getElem? (i := 20) rfl))) (notFace_of_selects (args := #[]) (mvT hZ (hw _ (List.mem_of_getElem? (i := 22) rfl)))) (mvT hZ (hw _ (List.mem_of_getElem? (i := 22) rfl))) (mvT hZ (hw _ (List.mem_of_getElem? (i := 21) rfl))) (by decide) (backOf (W := 0) (rm4 l Z a0 hw [] b57 (nar .char r22) b136 kb136 zb136 (1 : Int32) vs136 T136.heap n0 Z140 E136' Fc136 f142 Vb136 ne_b57_b136 g_b57 gb136 ⟨by decide, by decide⟩ hz136.1 hz136.2) hZ (hw _ (List.mem_of_getElem? (i := 23) rfl)) (hw _ (List.mem_of_getElem? (i := 10) rfl)) (by decide) (by decide)) q148a q148c (g := (mkF m 118 #[.val (.int p1), .val (.int p2), .val (.int p3), .val (.int p4), .val (.int p5), .val (.int p6), .val (.int (2 : Int32)), .val (.int sa), .val (.int cp), .val (.ref b8), .val (.ref b57), .unset] [(.int (nar .char r22)), (.ref b57)])) rfl (by rw [hml]; rfl) (Steps.refl _) (argsL := [(.int (nar .char r22))]) (rest := []) (lenOf pd_10 rfl) rfl (by show 2 * 0 + _ ≤ _; exact Nat.le_of_eq rfl) (hb hby at_118) (fun _ _ => ⟨rfl, rfl, (by decide : 4 + 1 ≤ _), (by decide : 25 + 10 ≤ _)⟩)
    dsimp only [Pt.U, Pt.locs, Pt.cells, Pt.slots] at X148 lq148 yq148 zq148 st148 hQ148
    subst lq148 yq148 zq148
    obtain ⟨b148, kb148, zb148, vs148, rfl, Nq148, K148, ob148, E148', Fc148, Fl148, Vb148, hz148, hc148, hd148⟩ := hQ148
    have N149 := Fr.app N137 Nq148
    have gb148 : n0 ≤ b148 := ob148.elim (fun q => q ▸ gb136) (fun q => Nat.le_trans Z140 q)
    have sz148 : h0.size ≤ b148 := ob148.elim (fun q => q ▸ sz136) (fun q => Nat.le_trans KP141.1 q)
    have ne_b8_b148 : b8 ≠ b148 := ob148.elim (fun q => q ▸ ne_b8_b136) (fun q => Nat.ne_of_lt (Nat.lt_of_lt_of_le f138.lt q))
    have ne_b57_b148 : b57 ≠ b148 := ob148.elim (fun q => q ▸ ne_b57_b136) (fun q => Nat.ne_of_lt (Nat.lt_of_lt_of_le E136'.lt q))
    have f150 := f138.keep K148 (ninS ne_b8_b57 (ninS ne_b8_b136 nin0))
    have f151 := E136'.keep K148
    have Z152 : n0 ≤ T148.heap.size := Nat.le_trans Z140 K148.1
    have KP153 : Keep h0 T148.heap [] := KP141.trans K148 (allS (Or.inr sz_b57) (allS (Or.inr sz136) all0))
    have f154 : Fld Z T148.heap b57 "org/arborlog/pattern/LineText" "length" "I" (.int (2 : Int32)) := Fl148
    have ct155 : vs148.getD 0 (Value.int (0 : Int32)) = .int (nar .char (nar .char r13)) := (hc148 0 (by decide)).trans ct143
    have ct156 : vs148.getD 1 (Value.int (0 : Int32)) = .int (nar .char (nar .char r22)) := hd148
    have K157 : ∀ t, Steps p.tables e below (T148.setTop (mkF m 121 #[.val (.int p1), .val (.int p2), .val (.int p3), .val (.int p4), .val (.int p5), .val (.int p6), .val (.int (2 : Int32)), .val (.int sa), .val (.int cp), .val (.ref b8), .val (.ref b57), .unset] [(.ref b57)])) t → Steps p.tables e below G t := fun t k => K147 t (st148.trans k)
    have K158 : ∀ t, Steps p.tables e below (T148.setTop (mkF m 177 #[.val (.int p1), .val (.int p2), .val (.int p3), .val (.int p4), .val (.int p5), .val (.int p6), .val (.int (2 : Int32)), .val (.int sa), .val (.int cp), .val (.ref b8), .val (.ref b57), .unset] [(.int (2 : Int32)), (.int sa), (.int (0 : Int32)), (.ref b8)])) t → Steps p.tables e below G t := by
      intro t k
      refine K157 t ?_
      show Steps p.tables e below (T148.setTop (mkF m 121 #[.val (.int p1), .val (.int p2), .val (.int p3), .val (.int p4), .val (.int p5), .val (.int p6), .val (.int (2 : Int32)), .val (.int sa), .val (.int cp), .val (.ref b8), .val (.ref b57), .unset] [(.ref b57)])) _
      refine XS.pop X148.here hx rfl (hb hby at_121) rfl rfl ?_
      show Steps p.tables e below (T148.setTop (mkF m 122 #[.val (.int p1), .val (.int p2), .val (.int p3), .val (.int p4), .val (.int p5), .val (.int p6), .val (.int (2 : Int32)), .val (.int sa), .val (.int cp), .val (.ref b8), .val (.ref b57), .unset] [])) _
      refine XS.iload X148.here hx rfl (hb hby at_122) rfl ?_
      show Steps p.tables e below (T148.setTop (mkF m 124 #[.val (.int p1), .val (.int p2), .val (.int p3), .val (.int p4), .val (.int p5), .val (.int p6), .val (.int (2 : Int32)), .val (.int sa), .val (.int cp), .val (.ref b8), .val (.ref b57), .unset] [(.int (2 : Int32))])) _
      refine XS.iconst X148.here hx rfl (hb hby at_124) ?_
      show Steps p.tables e below (T148.setTop (mkF m 125 #[.val (.int p1), .val (.int p2), .val (.int p3), .val (.int p4), .val (.int p5), .val (.int p6), .val (.int (2 : Int32)), .val (.int sa), .val (.int cp), .val (.ref b8), .val (.ref b57), .unset] [(.int (2 : Int32)), (.int (2 : Int32))])) _
      refine XS.icmpYes X148.here hx rfl (pc0 := 125) (pc' := 138) rfl (hb hby at_125) rfl (flt (by decide)).2.2.2 (by decide) (by decide) ?_
      show Steps p.tables e below (T148.setTop (mkF m 138 #[.val (.int p1), .val (.int p2), .val (.int p3), .val (.int p4), .val (.int p5), .val (.int p6), .val (.int (2 : Int32)), .val (.int sa), .val (.int cp), .val (.ref b8), .val (.ref b57), .unset] [])) _
      refine XS.iload X148.here hx rfl (hb hby at_138) rfl ?_
      show Steps p.tables e below (T148.setTop (mkF m 140 #[.val (.int p1), .val (.int p2), .val (.int p3), .val (.int p4), .val (.int p5), .val (.int p6), .val (.int (2 : Int32)), .val (.int sa), .val (.int cp), .val (.ref b8), .val (.ref b57), .unset] [(.int (2 : Int32))])) _
      refine XS.iconst X148.here hx rfl (hb hby at_140) ?_
      show Steps p.tables e below (T148.setTop (mkF m 141 #[.val (.int p1), .val (.int p2), .val (.int p3), .val (.int p4), .val (.int p5), .val (.int p6), .val (.int (2 : Int32)), .val (.int sa), .val (.int cp), .val (.ref b8), .val (.ref b57), .unset] [(.int (3 : Int32)), (.int (2 : Int32))])) _
      refine XS.icmpYes X148.here hx rfl (pc0 := 141) (pc' := 154) rfl (hb hby at_141) rfl (flt (by decide)).2.2.2 (by decide) (by decide) ?_
      show Steps p.tables e below (T148.setTop (mkF m 154 #[.val (.int p1), .val (.int p2), .val (.int p3), .val (.int p4), .val (.int p5), .val (.int p6), .val (.int (2 : Int32)), .val (.int sa), .val (.int cp), .val (.ref b8), .val (.ref b57), .unset] [])) _
      refine XS.iload X148.here hx rfl (hb hby at_154) rfl ?_
      show Steps p.tables e below (T148.setTop (mkF m 156 #[.val (.int p1), .val (.int p2), .val (.int p3), .val (.int p4), .val (.int p5), .val (.int p6), .val (.int (2 : Int32)), .val (.int sa), .val (.int cp), .val (.ref b8), .val (.ref b57), .unset] [(.int (2 : Int32))])) _
      refine XS.iconst X148.here hx rfl (hb hby at_156) ?_
      show Steps p.tables e below (T148.setTop (mkF m 157 #[.val (.int p1), .val (.int p2), .val (.int p3), .val (.int p4), .val (.int p5), .val (.int p6), .val (.int (2 : Int32)), .val (.int sa), .val (.int cp), .val (.ref b8), .val (.ref b57), .unset] [(.int (4 : Int32)), (.int (2 : Int32))])) _
      refine XS.icmpYes X148.here hx rfl (pc0 := 157) (pc' := 170) rfl (hb hby at_157) rfl (flt (by decide)).2.2.2 (by decide) (by decide) ?_
      show Steps p.tables e below (T148.setTop (mkF m 170 #[.val (.int p1), .val (.int p2), .val (.int p3), .val (.int p4), .val (.int p5), .val (.int p6), .val (.int (2 : Int32)), .val (.int sa), .val (.int cp), .val (.ref b8), .val (.ref b57), .unset] [])) _
      refine XS.aload X148.here hx rfl (hb hby at_170) rfl rfl ?_
      show Steps p.tables e below (T148.setTop (mkF m 172 #[.val (.int p1), .val (.int p2), .val (.int p3), .val (.int p4), .val (.int p5), .val (.int p6), .val (.int (2 : Int32)), .val (.int sa), .val (.int cp), .val (.ref b8), .val (.ref b57), .unset] [(.ref b8)])) _
      refine XS.iconst X148.here hx rfl (hb hby at_172) ?_
      show Steps p.tables e below (T148.setTop (mkF m 173 #[.val (.int p1), .val (.int p2), .val (.int p3), .val (.int p4), .val (.int p5), .val (.int p6), .val (.int (2 : Int32)), .val (.int sa), .val (.int cp), .val (.ref b8), .val (.ref b57), .unset] [(.int (0 : Int32)), (.ref b8)])) _
      refine XS.iload X148.here hx rfl (hb hby at_173) rfl ?_
      show Steps p.tables e below (T148.setTop (mkF m 175 #[.val (.int p1), .val (.int p2), .val (.int p3), .val (.int p4), .val (.int p5), .val (.int p6), .val (.int (2 : Int32)), .val (.int sa), .val (.int cp), .val (.ref b8), .val (.ref b57), .unset] [(.int sa), (.int (0 : Int32)), (.ref b8)])) _
      refine XS.iload X148.here hx rfl (hb hby at_175) rfl ?_
      show Steps p.tables e below (T148.setTop (mkF m 177 #[.val (.int p1), .val (.int p2), .val (.int p3), .val (.int p4), .val (.int p5), .val (.int p6), .val (.int (2 : Int32)), .val (.int sa), .val (.int cp), .val (.ref b8), .val (.ref b57), .unset] [(.int (2 : Int32)), (.int sa), (.int (0 : Int32)), (.ref b8)])) _
      exact k
    obtain ⟨_, _, ⟨T159, L159, kk159, nn159⟩, -, X159, ⟨Lc159, hQ159, lq159, yq159, zq159⟩, st159⟩ := Jvm.LawKit.callS X148 hx (y := (⟨"org/arborlog/pattern/LineTextCodePointCountPinLaw", "contrib", "([CIII)I"⟩ : MethodName)) hown (mvT hZ (hw _ (List.mem_of_getElem? (i := 45) rfl))) (mvT hZ (hw _ (List.mem_of_getElem? (i := 46) rfl))) (mvT hZ (hw _ (List.mem_of_getElem? (i := 3) rfl))) (mvT hZ (hw _ (List.mem_of_getElem? (i := 47) rfl))) (by decide) (backOf (W := 0) (rm9 l Z a0 hw [] b8 (0 : Int32) sa (2 : Int32) kn8 [(.int (nar .char r13)), (.int (nar .char r22)), (.int (nar .char r31)), (.int (nar .char r40)), (.int (nar .char r49))] 0 (nar .char r13) T148.heap n0 Z152 f150 (fun q => absurd q hsa0) ⟨⟨by decide, by decide⟩, rfl⟩) hZ (hw _ (List.mem_of_getElem? (i := 47) rfl)) (hw _ (List.mem_of_getElem? (i := 3) rfl)) (by decide) (by decide)) (g := (mkF m 177 #[.val (.int p1), .val (.int p2), .val (.int p3), .val (.int p4), .val (.int p5), .val (.int p6), .val (.int (2 : Int32)), .val (.int sa), .val (.int cp), .val (.ref b8), .val (.ref b57), .unset] [(.int (2 : Int32)), (.int sa), (.int (0 : Int32)), (.ref b8)])) rfl (by rw [hml]; rfl) (argsL := [(.ref b8), (.int (0 : Int32)), (.int sa), (.int (2 : Int32))]) (rest := []) (lenOf pd_8 rfl) rfl (by show 2 * 0 + _ ≤ _; exact Nat.le_of_eq rfl) (hb hby at_177) (fun _ _ => ⟨rfl, rfl, (by decide : 5 + 0 ≤ _), (by decide : 35 + 0 ≤ _)⟩)
    dsimp only [Pt.U, Pt.locs, Pt.cells, Pt.slots] at X159 lq159 yq159 zq159 st159 hQ159
    subst lq159 yq159 zq159
    obtain ⟨rfl, Nq159, e159⟩ := hQ159
    have N160 := Fr.app N149 Nq159
    have K161 : ∀ t, Steps p.tables e below (T159.setTop (mkF m 180 #[.val (.int p1), .val (.int p2), .val (.int p3), .val (.int p4), .val (.int p5), .val (.int p6), .val (.int (2 : Int32)), .val (.int sa), .val (.int cp), .val (.ref b8), .val (.ref b57), .unset] [(.int (own_con (0 : Int32) sa (2 : Int32) 0 (nar .char r13)))])) t → Steps p.tables e below G t := fun t k => K158 t (st159 _ k)
    have K162 : ∀ t, Steps p.tables e below (T159.setTop (mkF m 187 #[.val (.int p1), .val (.int p2), .val (.int p3), .val (.int p4), .val (.int p5), .val (.int p6), .val (.int (2 : Int32)), .val (.int sa), .val (.int cp), .val (.ref b8), .val (.ref b57), .unset] [(.int (2 : Int32)), (.int sa), (.int (1 : Int32)), (.ref b8), (.int (own_con (0 : Int32) sa (2 : Int32) 0 (nar .char r13)))])) t → Steps p.tables e below G t := by
      intro t k
      refine K161 t ?_
      show Steps p.tables e below (T159.setTop (mkF m 180 #[.val (.int p1), .val (.int p2), .val (.int p3), .val (.int p4), .val (.int p5), .val (.int p6), .val (.int (2 : Int32)), .val (.int sa), .val (.int cp), .val (.ref b8), .val (.ref b57), .unset] [(.int (own_con (0 : Int32) sa (2 : Int32) 0 (nar .char r13)))])) _
      refine XS.aload X159.here hx rfl (hb hby at_180) rfl rfl ?_
      show Steps p.tables e below (T159.setTop (mkF m 182 #[.val (.int p1), .val (.int p2), .val (.int p3), .val (.int p4), .val (.int p5), .val (.int p6), .val (.int (2 : Int32)), .val (.int sa), .val (.int cp), .val (.ref b8), .val (.ref b57), .unset] [(.ref b8), (.int (own_con (0 : Int32) sa (2 : Int32) 0 (nar .char r13)))])) _
      refine XS.iconst X159.here hx rfl (hb hby at_182) ?_
      show Steps p.tables e below (T159.setTop (mkF m 183 #[.val (.int p1), .val (.int p2), .val (.int p3), .val (.int p4), .val (.int p5), .val (.int p6), .val (.int (2 : Int32)), .val (.int sa), .val (.int cp), .val (.ref b8), .val (.ref b57), .unset] [(.int (1 : Int32)), (.ref b8), (.int (own_con (0 : Int32) sa (2 : Int32) 0 (nar .char r13)))])) _
      refine XS.iload X159.here hx rfl (hb hby at_183) rfl ?_
      show Steps p.tables e below (T159.setTop (mkF m 185 #[.val (.int p1), .val (.int p2), .val (.int p3), .val (.int p4), .val (.int p5), .val (.int p6), .val (.int (2 : Int32)), .val (.int sa), .val (.int cp), .val (.ref b8), .val (.ref b57), .unset] [(.int sa), (.int (1 : Int32)), (.ref b8), (.int (own_con (0 : Int32) sa (2 : Int32) 0 (nar .char r13)))])) _
      refine XS.iload X159.here hx rfl (hb hby at_185) rfl ?_
      show Steps p.tables e below (T159.setTop (mkF m 187 #[.val (.int p1), .val (.int p2), .val (.int p3), .val (.int p4), .val (.int p5), .val (.int p6), .val (.int (2 : Int32)), .val (.int sa), .val (.int cp), .val (.ref b8), .val (.ref b57), .unset] [(.int (2 : Int32)), (.int sa), (.int (1 : Int32)), (.ref b8), (.int (own_con (0 : Int32) sa (2 : Int32) 0 (nar .char r13)))])) _
      exact k
    obtain ⟨_, _, ⟨T163, L163, kk163, nn163⟩, -, X163, ⟨Lc163, hQ163, lq163, yq163, zq163⟩, st163⟩ := Jvm.LawKit.callS X159 hx (y := (⟨"org/arborlog/pattern/LineTextCodePointCountPinLaw", "contrib", "([CIII)I"⟩ : MethodName)) hown (mvT hZ (hw _ (List.mem_of_getElem? (i := 45) rfl))) (mvT hZ (hw _ (List.mem_of_getElem? (i := 46) rfl))) (mvT hZ (hw _ (List.mem_of_getElem? (i := 3) rfl))) (mvT hZ (hw _ (List.mem_of_getElem? (i := 47) rfl))) (by decide) (backOf (W := 1) (rm9 l Z a0 hw [] b8 (1 : Int32) sa (2 : Int32) kn8 [(.int (nar .char r13)), (.int (nar .char r22)), (.int (nar .char r31)), (.int (nar .char r40)), (.int (nar .char r49))] (nar .char r13) (nar .char r22) T148.heap n0 Z152 f150 (fun _ => ⟨⟨by decide, by decide⟩, rfl⟩) ⟨⟨by decide, by decide⟩, rfl⟩) hZ (hw _ (List.mem_of_getElem? (i := 47) rfl)) (hw _ (List.mem_of_getElem? (i := 3) rfl)) (by decide) (by decide)) (g := (mkF m 187 #[.val (.int p1), .val (.int p2), .val (.int p3), .val (.int p4), .val (.int p5), .val (.int p6), .val (.int (2 : Int32)), .val (.int sa), .val (.int cp), .val (.ref b8), .val (.ref b57), .unset] [(.int (2 : Int32)), (.int sa), (.int (1 : Int32)), (.ref b8), (.int (own_con (0 : Int32) sa (2 : Int32) 0 (nar .char r13)))])) rfl (by rw [hml]; rfl) (argsL := [(.ref b8), (.int (1 : Int32)), (.int sa), (.int (2 : Int32))]) (rest := [(.int (own_con (0 : Int32) sa (2 : Int32) 0 (nar .char r13)))]) (lenOf pd_8 rfl) rfl (by show 2 * 0 + _ ≤ _; exact Nat.le_of_eq rfl) (hb hby at_187) (fun _ _ => ⟨rfl, e159, (by decide : 5 + 0 ≤ _), (by decide : 35 + 0 ≤ _)⟩)
    dsimp only [Pt.U, Pt.locs, Pt.cells, Pt.slots] at X163 lq163 yq163 zq163 st163 hQ163
    subst lq163 yq163 zq163
    obtain ⟨rfl, Nq163, e163⟩ := hQ163
    have N164 := Fr.app N160 Nq163
    have K165 : ∀ t, Steps p.tables e below (T163.setTop (mkF m 190 #[.val (.int p1), .val (.int p2), .val (.int p3), .val (.int p4), .val (.int p5), .val (.int p6), .val (.int (2 : Int32)), .val (.int sa), .val (.int cp), .val (.ref b8), .val (.ref b57), .unset] [(.int (own_con (1 : Int32) sa (2 : Int32) (nar .char r13) (nar .char r22))), (.int (own_con (0 : Int32) sa (2 : Int32) 0 (nar .char r13)))])) t → Steps p.tables e below G t := fun t k => K162 t (st163 _ k)
    have K166 : ∀ t, Steps p.tables e below (T163.setTop (mkF m 198 #[.val (.int p1), .val (.int p2), .val (.int p3), .val (.int p4), .val (.int p5), .val (.int p6), .val (.int (2 : Int32)), .val (.int sa), .val (.int cp), .val (.ref b8), .val (.ref b57), .unset] [(.int (2 : Int32)), (.int sa), (.int (2 : Int32)), (.ref b8), (.int ((own_con (0 : Int32) sa (2 : Int32) 0 (nar .char r13)) + (own_con (1 : Int32) sa (2 : Int32) (nar .char r13) (nar .char r22))))])) t → Steps p.tables e below G t := by
      intro t k
      refine K165 t ?_
      show Steps p.tables e below (T163.setTop (mkF m 190 #[.val (.int p1), .val (.int p2), .val (.int p3), .val (.int p4), .val (.int p5), .val (.int p6), .val (.int (2 : Int32)), .val (.int sa), .val (.int cp), .val (.ref b8), .val (.ref b57), .unset] [(.int (own_con (1 : Int32) sa (2 : Int32) (nar .char r13) (nar .char r22))), (.int (own_con (0 : Int32) sa (2 : Int32) 0 (nar .char r13)))])) _
      refine XS.iadd X163.here hx rfl (hb hby at_190) rfl ?_
      show Steps p.tables e below (T163.setTop (mkF m 191 #[.val (.int p1), .val (.int p2), .val (.int p3), .val (.int p4), .val (.int p5), .val (.int p6), .val (.int (2 : Int32)), .val (.int sa), .val (.int cp), .val (.ref b8), .val (.ref b57), .unset] [(.int ((own_con (0 : Int32) sa (2 : Int32) 0 (nar .char r13)) + (own_con (1 : Int32) sa (2 : Int32) (nar .char r13) (nar .char r22))))])) _
      refine XS.aload X163.here hx rfl (hb hby at_191) rfl rfl ?_
      show Steps p.tables e below (T163.setTop (mkF m 193 #[.val (.int p1), .val (.int p2), .val (.int p3), .val (.int p4), .val (.int p5), .val (.int p6), .val (.int (2 : Int32)), .val (.int sa), .val (.int cp), .val (.ref b8), .val (.ref b57), .unset] [(.ref b8), (.int ((own_con (0 : Int32) sa (2 : Int32) 0 (nar .char r13)) + (own_con (1 : Int32) sa (2 : Int32) (nar .char r13) (nar .char r22))))])) _
      refine XS.iconst X163.here hx rfl (hb hby at_193) ?_
      show Steps p.tables e below (T163.setTop (mkF m 194 #[.val (.int p1), .val (.int p2), .val (.int p3), .val (.int p4), .val (.int p5), .val (.int p6), .val (.int (2 : Int32)), .val (.int sa), .val (.int cp), .val (.ref b8), .val (.ref b57), .unset] [(.int (2 : Int32)), (.ref b8), (.int ((own_con (0 : Int32) sa (2 : Int32) 0 (nar .char r13)) + (own_con (1 : Int32) sa (2 : Int32) (nar .char r13) (nar .char r22))))])) _
      refine XS.iload X163.here hx rfl (hb hby at_194) rfl ?_
      show Steps p.tables e below (T163.setTop (mkF m 196 #[.val (.int p1), .val (.int p2), .val (.int p3), .val (.int p4), .val (.int p5), .val (.int p6), .val (.int (2 : Int32)), .val (.int sa), .val (.int cp), .val (.ref b8), .val (.ref b57), .unset] [(.int sa), (.int (2 : Int32)), (.ref b8), (.int ((own_con (0 : Int32) sa (2 : Int32) 0 (nar .char r13)) + (own_con (1 : Int32) sa (2 : Int32) (nar .char r13) (nar .char r22))))])) _
      refine XS.iload X163.here hx rfl (hb hby at_196) rfl ?_
      show Steps p.tables e below (T163.setTop (mkF m 198 #[.val (.int p1), .val (.int p2), .val (.int p3), .val (.int p4), .val (.int p5), .val (.int p6), .val (.int (2 : Int32)), .val (.int sa), .val (.int cp), .val (.ref b8), .val (.ref b57), .unset] [(.int (2 : Int32)), (.int sa), (.int (2 : Int32)), (.ref b8), (.int ((own_con (0 : Int32) sa (2 : Int32) 0 (nar .char r13)) + (own_con (1 : Int32) sa (2 : Int32) (nar .char r13) (nar .char r22))))])) _
      exact k
    obtain ⟨_, _, ⟨T167, L167, kk167, nn167⟩, -, X167, ⟨Lc167, hQ167, lq167, yq167, zq167⟩, st167⟩ := Jvm.LawKit.callS X163 hx (y := (⟨"org/arborlog/pattern/LineTextCodePointCountPinLaw", "contrib", "([CIII)I"⟩ : MethodName)) hown (mvT hZ (hw _ (List.mem_of_getElem? (i := 45) rfl))) (mvT hZ (hw _ (List.mem_of_getElem? (i := 46) rfl))) (mvT hZ (hw _ (List.mem_of_getElem? (i := 3) rfl))) (mvT hZ (hw _ (List.mem_of_getElem? (i := 47) rfl))) (by decide) (backOf (W := 1) (rm9 l Z a0 hw [] b8 (2 : Int32) sa (2 : Int32) kn8 [(.int (nar .char r13)), (.int (nar .char r22)), (.int (nar .char r31)), (.int (nar .char r40)), (.int (nar .char r49))] (nar .char r22) (nar .char r31) T148.heap n0 Z152 f150 (fun _ => ⟨⟨by decide, by decide⟩, rfl⟩) ⟨⟨by decide, by decide⟩, rfl⟩) hZ (hw _ (List.mem_of_getElem? (i := 47) rfl)) (hw _ (List.mem_of_getElem? (i := 3) rfl)) (by decide) (by decide)) (g := (mkF m 198 #[.val (.int p1), .val (.int p2), .val (.int p3), .val (.int p4), .val (.int p5), .val (.int p6), .val (.int (2 : Int32)), .val (.int sa), .val (.int cp), .val (.ref b8), .val (.ref b57), .unset] [(.int (2 : Int32)), (.int sa), (.int (2 : Int32)), (.ref b8), (.int ((own_con (0 : Int32) sa (2 : Int32) 0 (nar .char r13)) + (own_con (1 : Int32) sa (2 : Int32) (nar .char r13) (nar .char r22))))])) rfl (by rw [hml]; rfl) (argsL := [(.ref b8), (.int (2 : Int32)), (.int sa), (.int (2 : Int32))]) (rest := [(.int ((own_con (0 : Int32) sa (2 : Int32) 0 (nar .char r13)) + (own_con (1 : Int32) sa (2 : Int32) (nar .char r13) (nar .char r22))))]) (lenOf pd_8 rfl) rfl (by show 2 * 0 + _ ≤ _; exact Nat.le_of_eq rfl) (hb hby at_198) (fun _ _ => ⟨rfl, e163, (by decide : 5 + 0 ≤ _), (by decide : 35 + 0 ≤ _)⟩)
    dsimp only [Pt.U, Pt.locs, Pt.cells, Pt.slots] at X167 lq167 yq167 zq167 st167 hQ167
    subst lq167 yq167 zq167
    obtain ⟨rfl, Nq167, e167⟩ := hQ167
    have N168 := Fr.app N164 Nq167
    have K169 : ∀ t, Steps p.tables e below (T167.setTop (mkF m 201 #[.val (.int p1), .val (.int p2), .val (.int p3), .val (.int p4), .val (.int p5), .val (.int p6), .val (.int (2 : Int32)), .val (.int sa), .val (.int cp), .val (.ref b8), .val (.ref b57), .unset] [(.int (own_con (2 : Int32) sa (2 : Int32) (nar .char r22) (nar .char r31))), (.int ((own_con (0 : Int32) sa (2 : Int32) 0 (nar .char r13)) + (own_con (1 : Int32) sa (2 : Int32) (nar .char r13) (nar .char r22))))])) t → Steps p.tables e below G t := fun t k => K166 t (st167 _ k)
    have K170 : ∀ t, Steps p.tables e below (T167.setTop (mkF m 209 #[.val (.int p1), .val (.int p2), .val (.int p3), .val (.int p4), .val (.int p5), .val (.int p6), .val (.int (2 : Int32)), .val (.int sa), .val (.int cp), .val (.ref b8), .val (.ref b57), .unset] [(.int (2 : Int32)), (.int sa), (.int (3 : Int32)), (.ref b8), (.int (((own_con (0 : Int32) sa (2 : Int32) 0 (nar .char r13)) + (own_con (1 : Int32) sa (2 : Int32) (nar .char r13) (nar .char r22))) + (own_con (2 : Int32) sa (2 : Int32) (nar .char r22) (nar .char r31))))])) t → Steps p.tables e below G t := by
      intro t k
      refine K169 t ?_
      show Steps p.tables e below (T167.setTop (mkF m 201 #[.val (.int p1), .val (.int p2), .val (.int p3), .val (.int p4), .val (.int p5), .val (.int p6), .val (.int (2 : Int32)), .val (.int sa), .val (.int cp), .val (.ref b8), .val (.ref b57), .unset] [(.int (own_con (2 : Int32) sa (2 : Int32) (nar .char r22) (nar .char r31))), (.int ((own_con (0 : Int32) sa (2 : Int32) 0 (nar .char r13)) + (own_con (1 : Int32) sa (2 : Int32) (nar .char r13) (nar .char r22))))])) _
      refine XS.iadd X167.here hx rfl (hb hby at_201) rfl ?_
      show Steps p.tables e below (T167.setTop (mkF m 202 #[.val (.int p1), .val (.int p2), .val (.int p3), .val (.int p4), .val (.int p5), .val (.int p6), .val (.int (2 : Int32)), .val (.int sa), .val (.int cp), .val (.ref b8), .val (.ref b57), .unset] [(.int (((own_con (0 : Int32) sa (2 : Int32) 0 (nar .char r13)) + (own_con (1 : Int32) sa (2 : Int32) (nar .char r13) (nar .char r22))) + (own_con (2 : Int32) sa (2 : Int32) (nar .char r22) (nar .char r31))))])) _
      refine XS.aload X167.here hx rfl (hb hby at_202) rfl rfl ?_
      show Steps p.tables e below (T167.setTop (mkF m 204 #[.val (.int p1), .val (.int p2), .val (.int p3), .val (.int p4), .val (.int p5), .val (.int p6), .val (.int (2 : Int32)), .val (.int sa), .val (.int cp), .val (.ref b8), .val (.ref b57), .unset] [(.ref b8), (.int (((own_con (0 : Int32) sa (2 : Int32) 0 (nar .char r13)) + (own_con (1 : Int32) sa (2 : Int32) (nar .char r13) (nar .char r22))) + (own_con (2 : Int32) sa (2 : Int32) (nar .char r22) (nar .char r31))))])) _
      refine XS.iconst X167.here hx rfl (hb hby at_204) ?_
      show Steps p.tables e below (T167.setTop (mkF m 205 #[.val (.int p1), .val (.int p2), .val (.int p3), .val (.int p4), .val (.int p5), .val (.int p6), .val (.int (2 : Int32)), .val (.int sa), .val (.int cp), .val (.ref b8), .val (.ref b57), .unset] [(.int (3 : Int32)), (.ref b8), (.int (((own_con (0 : Int32) sa (2 : Int32) 0 (nar .char r13)) + (own_con (1 : Int32) sa (2 : Int32) (nar .char r13) (nar .char r22))) + (own_con (2 : Int32) sa (2 : Int32) (nar .char r22) (nar .char r31))))])) _
      refine XS.iload X167.here hx rfl (hb hby at_205) rfl ?_
      show Steps p.tables e below (T167.setTop (mkF m 207 #[.val (.int p1), .val (.int p2), .val (.int p3), .val (.int p4), .val (.int p5), .val (.int p6), .val (.int (2 : Int32)), .val (.int sa), .val (.int cp), .val (.ref b8), .val (.ref b57), .unset] [(.int sa), (.int (3 : Int32)), (.ref b8), (.int (((own_con (0 : Int32) sa (2 : Int32) 0 (nar .char r13)) + (own_con (1 : Int32) sa (2 : Int32) (nar .char r13) (nar .char r22))) + (own_con (2 : Int32) sa (2 : Int32) (nar .char r22) (nar .char r31))))])) _
      refine XS.iload X167.here hx rfl (hb hby at_207) rfl ?_
      show Steps p.tables e below (T167.setTop (mkF m 209 #[.val (.int p1), .val (.int p2), .val (.int p3), .val (.int p4), .val (.int p5), .val (.int p6), .val (.int (2 : Int32)), .val (.int sa), .val (.int cp), .val (.ref b8), .val (.ref b57), .unset] [(.int (2 : Int32)), (.int sa), (.int (3 : Int32)), (.ref b8), (.int (((own_con (0 : Int32) sa (2 : Int32) 0 (nar .char r13)) + (own_con (1 : Int32) sa (2 : Int32) (nar .char r13) (nar .char r22))) + (own_con (2 : Int32) sa (2 : Int32) (nar .char r22) (nar .char r31))))])) _
      exact k
    obtain ⟨_, _, ⟨T171, L171, kk171, nn171⟩, -, X171, ⟨Lc171, hQ171, lq171, yq171, zq171⟩, st171⟩ := Jvm.LawKit.callS X167 hx (y := (⟨"org/arborlog/pattern/LineTextCodePointCountPinLaw", "contrib", "([CIII)I"⟩ : MethodName)) hown (mvT hZ (hw _ (List.mem_of_getElem? (i := 45) rfl))) (mvT hZ (hw _ (List.mem_of_getElem? (i := 46) rfl))) (mvT hZ (hw _ (List.mem_of_getElem? (i := 3) rfl))) (mvT hZ (hw _ (List.mem_of_getElem? (i := 47) rfl))) (by decide) (backOf (W := 1) (rm9 l Z a0 hw [] b8 (3 : Int32) sa (2 : Int32) kn8 [(.int (nar .char r13)), (.int (nar .char r22)), (.int (nar .char r31)), (.int (nar .char r40)), (.int (nar .char r49))] (nar .char r31) (nar .char r40) T148.heap n0 Z152 f150 (fun _ => ⟨⟨by decide, by decide⟩, rfl⟩) ⟨⟨by decide, by decide⟩, rfl⟩) hZ (hw _ (List.mem_of_getElem? (i := 47) rfl)) (hw _ (List.mem_of_getElem? (i := 3) rfl)) (by decide) (by decide)) (g := (mkF m 209 #[.val (.int p1), .val (.int p2), .val (.int p3), .val (.int p4), .val (.int p5), .val (.int p6), .val (.int (2 : Int32)), .val (.int sa), .val (.int cp), .val (.ref b8), .val (.ref b57), .unset] [(.int (2 : Int32)), (.int sa), (.int (3 : Int32)), (.ref b8), (.int (((own_con (0 : Int32) sa (2 : Int32) 0 (nar .char r13)) + (own_con (1 : Int32) sa (2 : Int32) (nar .char r13) (nar .char r22))) + (own_con (2 : Int32) sa (2 : Int32) (nar .char r22) (nar .char r31))))])) rfl (by rw [hml]; rfl) (argsL := [(.ref b8), (.int (3 : Int32)), (.int sa), (.int (2 : Int32))]) (rest := [(.int (((own_con (0 : Int32) sa (2 : Int32) 0 (nar .char r13)) + (own_con (1 : Int32) sa (2 : Int32) (nar .char r13) (nar .char r22))) + (own_con (2 : Int32) sa (2 : Int32) (nar .char r22) (nar .char r31))))]) (lenOf pd_8 rfl) rfl (by show 2 * 0 + _ ≤ _; exact Nat.le_of_eq rfl) (hb hby at_209) (fun _ _ => ⟨rfl, e167, (by decide : 5 + 0 ≤ _), (by decide : 35 + 0 ≤ _)⟩)
    dsimp only [Pt.U, Pt.locs, Pt.cells, Pt.slots] at X171 lq171 yq171 zq171 st171 hQ171
    subst lq171 yq171 zq171
    obtain ⟨rfl, Nq171, e171⟩ := hQ171
    have N172 := Fr.app N168 Nq171
    have K173 : ∀ t, Steps p.tables e below (T171.setTop (mkF m 212 #[.val (.int p1), .val (.int p2), .val (.int p3), .val (.int p4), .val (.int p5), .val (.int p6), .val (.int (2 : Int32)), .val (.int sa), .val (.int cp), .val (.ref b8), .val (.ref b57), .unset] [(.int (own_con (3 : Int32) sa (2 : Int32) (nar .char r31) (nar .char r40))), (.int (((own_con (0 : Int32) sa (2 : Int32) 0 (nar .char r13)) + (own_con (1 : Int32) sa (2 : Int32) (nar .char r13) (nar .char r22))) + (own_con (2 : Int32) sa (2 : Int32) (nar .char r22) (nar .char r31))))])) t → Steps p.tables e below G t := fun t k => K170 t (st171 _ k)
    have K174 : ∀ t, Steps p.tables e below (T171.setTop (mkF m 220 #[.val (.int p1), .val (.int p2), .val (.int p3), .val (.int p4), .val (.int p5), .val (.int p6), .val (.int (2 : Int32)), .val (.int sa), .val (.int cp), .val (.ref b8), .val (.ref b57), .unset] [(.int (2 : Int32)), (.int sa), (.int (4 : Int32)), (.ref b8), (.int ((((own_con (0 : Int32) sa (2 : Int32) 0 (nar .char r13)) + (own_con (1 : Int32) sa (2 : Int32) (nar .char r13) (nar .char r22))) + (own_con (2 : Int32) sa (2 : Int32) (nar .char r22) (nar .char r31))) + (own_con (3 : Int32) sa (2 : Int32) (nar .char r31) (nar .char r40))))])) t → Steps p.tables e below G t := by
      intro t k
      refine K173 t ?_
      show Steps p.tables e below (T171.setTop (mkF m 212 #[.val (.int p1), .val (.int p2), .val (.int p3), .val (.int p4), .val (.int p5), .val (.int p6), .val (.int (2 : Int32)), .val (.int sa), .val (.int cp), .val (.ref b8), .val (.ref b57), .unset] [(.int (own_con (3 : Int32) sa (2 : Int32) (nar .char r31) (nar .char r40))), (.int (((own_con (0 : Int32) sa (2 : Int32) 0 (nar .char r13)) + (own_con (1 : Int32) sa (2 : Int32) (nar .char r13) (nar .char r22))) + (own_con (2 : Int32) sa (2 : Int32) (nar .char r22) (nar .char r31))))])) _
      refine XS.iadd X171.here hx rfl (hb hby at_212) rfl ?_
      show Steps p.tables e below (T171.setTop (mkF m 213 #[.val (.int p1), .val (.int p2), .val (.int p3), .val (.int p4), .val (.int p5), .val (.int p6), .val (.int (2 : Int32)), .val (.int sa), .val (.int cp), .val (.ref b8), .val (.ref b57), .unset] [(.int ((((own_con (0 : Int32) sa (2 : Int32) 0 (nar .char r13)) + (own_con (1 : Int32) sa (2 : Int32) (nar .char r13) (nar .char r22))) + (own_con (2 : Int32) sa (2 : Int32) (nar .char r22) (nar .char r31))) + (own_con (3 : Int32) sa (2 : Int32) (nar .char r31) (nar .char r40))))])) _
      refine XS.aload X171.here hx rfl (hb hby at_213) rfl rfl ?_
      show Steps p.tables e below (T171.setTop (mkF m 215 #[.val (.int p1), .val (.int p2), .val (.int p3), .val (.int p4), .val (.int p5), .val (.int p6), .val (.int (2 : Int32)), .val (.int sa), .val (.int cp), .val (.ref b8), .val (.ref b57), .unset] [(.ref b8), (.int ((((own_con (0 : Int32) sa (2 : Int32) 0 (nar .char r13)) + (own_con (1 : Int32) sa (2 : Int32) (nar .char r13) (nar .char r22))) + (own_con (2 : Int32) sa (2 : Int32) (nar .char r22) (nar .char r31))) + (own_con (3 : Int32) sa (2 : Int32) (nar .char r31) (nar .char r40))))])) _
      refine XS.iconst X171.here hx rfl (hb hby at_215) ?_
      show Steps p.tables e below (T171.setTop (mkF m 216 #[.val (.int p1), .val (.int p2), .val (.int p3), .val (.int p4), .val (.int p5), .val (.int p6), .val (.int (2 : Int32)), .val (.int sa), .val (.int cp), .val (.ref b8), .val (.ref b57), .unset] [(.int (4 : Int32)), (.ref b8), (.int ((((own_con (0 : Int32) sa (2 : Int32) 0 (nar .char r13)) + (own_con (1 : Int32) sa (2 : Int32) (nar .char r13) (nar .char r22))) + (own_con (2 : Int32) sa (2 : Int32) (nar .char r22) (nar .char r31))) + (own_con (3 : Int32) sa (2 : Int32) (nar .char r31) (nar .char r40))))])) _
      refine XS.iload X171.here hx rfl (hb hby at_216) rfl ?_
      show Steps p.tables e below (T171.setTop (mkF m 218 #[.val (.int p1), .val (.int p2), .val (.int p3), .val (.int p4), .val (.int p5), .val (.int p6), .val (.int (2 : Int32)), .val (.int sa), .val (.int cp), .val (.ref b8), .val (.ref b57), .unset] [(.int sa), (.int (4 : Int32)), (.ref b8), (.int ((((own_con (0 : Int32) sa (2 : Int32) 0 (nar .char r13)) + (own_con (1 : Int32) sa (2 : Int32) (nar .char r13) (nar .char r22))) + (own_con (2 : Int32) sa (2 : Int32) (nar .char r22) (nar .char r31))) + (own_con (3 : Int32) sa (2 : Int32) (nar .char r31) (nar .char r40))))])) _
      refine XS.iload X171.here hx rfl (hb hby at_218) rfl ?_
      show Steps p.tables e below (T171.setTop (mkF m 220 #[.val (.int p1), .val (.int p2), .val (.int p3), .val (.int p4), .val (.int p5), .val (.int p6), .val (.int (2 : Int32)), .val (.int sa), .val (.int cp), .val (.ref b8), .val (.ref b57), .unset] [(.int (2 : Int32)), (.int sa), (.int (4 : Int32)), (.ref b8), (.int ((((own_con (0 : Int32) sa (2 : Int32) 0 (nar .char r13)) + (own_con (1 : Int32) sa (2 : Int32) (nar .char r13) (nar .char r22))) + (own_con (2 : Int32) sa (2 : Int32) (nar .char r22) (nar .char r31))) + (own_con (3 : Int32) sa (2 : Int32) (nar .char r31) (nar .char r40))))])) _
      exact k
    obtain ⟨_, _, ⟨T175, L175, kk175, nn175⟩, -, X175, ⟨Lc175, hQ175, lq175, yq175, zq175⟩, st175⟩ := Jvm.LawKit.callS X171 hx (y := (⟨"org/arborlog/pattern/LineTextCodePointCountPinLaw", "contrib", "([CIII)I"⟩ : MethodName)) hown (mvT hZ (hw _ (List.mem_of_getElem? (i := 45) rfl))) (mvT hZ (hw _ (List.mem_of_getElem? (i := 46) rfl))) (mvT hZ (hw _ (List.mem_of_getElem? (i := 3) rfl))) (mvT hZ (hw _ (List.mem_of_getElem? (i := 47) rfl))) (by decide) (backOf (W := 1) (rm9 l Z a0 hw [] b8 (4 : Int32) sa (2 : Int32) kn8 [(.int (nar .char r13)), (.int (nar .char r22)), (.int (nar .char r31)), (.int (nar .char r40)), (.int (nar .char r49))] (nar .char r40) (nar .char r49) T148.heap n0 Z152 f150 (fun _ => ⟨⟨by decide, by decide⟩, rfl⟩) ⟨⟨by decide, by decide⟩, rfl⟩) hZ (hw _ (List.mem_of_getElem? (i := 47) rfl)) (hw _ (List.mem_of_getElem? (i := 3) rfl)) (by decide) (by decide)) (g := (mkF m 220 #[.val (.int p1), .val (.int p2), .val (.int p3), .val (.int p4), .val (.int p5), .val (.int p6), .val (.int (2 : Int32)), .val (.int sa), .val (.int cp), .val (.ref b8), .val (.ref b57), .unset] [(.int (2 : Int32)), (.int sa), (.int (4 : Int32)), (.ref b8), (.int ((((own_con (0 : Int32) sa (2 : Int32) 0 (nar .char r13)) + (own_con (1 : Int32) sa (2 : Int32) (nar .char r13) (nar .char r22))) + (own_con (2 : Int32) sa (2 : Int32) (nar .char r22) (nar .char r31))) + (own_con (3 : Int32) sa (2 : Int32) (nar .char r31) (nar .char r40))))])) rfl (by rw [hml]; rfl) (argsL := [(.ref b8), (.int (4 : Int32)), (.int sa), (.int (2 : Int32))]) (rest := [(.int ((((own_con (0 : Int32) sa (2 : Int32) 0 (nar .char r13)) + (own_con (1 : Int32) sa (2 : Int32) (nar .char r13) (nar .char r22))) + (own_con (2 : Int32) sa (2 : Int32) (nar .char r22) (nar .char r31))) + (own_con (3 : Int32) sa (2 : Int32) (nar .char r31) (nar .char r40))))]) (lenOf pd_8 rfl) rfl (by show 2 * 0 + _ ≤ _; exact Nat.le_of_eq rfl) (hb hby at_220) (fun _ _ => ⟨rfl, e171, (by decide : 5 + 0 ≤ _), (by decide : 35 + 0 ≤ _)⟩)
    dsimp only [Pt.U, Pt.locs, Pt.cells, Pt.slots] at X175 lq175 yq175 zq175 st175 hQ175
    subst lq175 yq175 zq175
    obtain ⟨rfl, Nq175, e175⟩ := hQ175
    have N176 := Fr.app N172 Nq175
    have K177 : ∀ t, Steps p.tables e below (T175.setTop (mkF m 223 #[.val (.int p1), .val (.int p2), .val (.int p3), .val (.int p4), .val (.int p5), .val (.int p6), .val (.int (2 : Int32)), .val (.int sa), .val (.int cp), .val (.ref b8), .val (.ref b57), .unset] [(.int (own_con (4 : Int32) sa (2 : Int32) (nar .char r40) (nar .char r49))), (.int ((((own_con (0 : Int32) sa (2 : Int32) 0 (nar .char r13)) + (own_con (1 : Int32) sa (2 : Int32) (nar .char r13) (nar .char r22))) + (own_con (2 : Int32) sa (2 : Int32) (nar .char r22) (nar .char r31))) + (own_con (3 : Int32) sa (2 : Int32) (nar .char r31) (nar .char r40))))])) t → Steps p.tables e below G t := fun t k => K174 t (st175 _ k)
    have K178 : ∀ t, Steps p.tables e below (T175.setTop (mkF m 230 #[.val (.int p1), .val (.int p2), .val (.int p3), .val (.int p4), .val (.int p5), .val (.int p6), .val (.int (2 : Int32)), .val (.int sa), .val (.int cp), .val (.ref b8), .val (.ref b57), .val (.int (((((own_con (0 : Int32) sa (2 : Int32) 0 (nar .char r13)) + (own_con (1 : Int32) sa (2 : Int32) (nar .char r13) (nar .char r22))) + (own_con (2 : Int32) sa (2 : Int32) (nar .char r22) (nar .char r31))) + (own_con (3 : Int32) sa (2 : Int32) (nar .char r31) (nar .char r40))) + (own_con (4 : Int32) sa (2 : Int32) (nar .char r40) (nar .char r49))))] [(.int sa), (.ref b57)])) t → Steps p.tables e below G t := by
      intro t k
      refine K177 t ?_
      show Steps p.tables e below (T175.setTop (mkF m 223 #[.val (.int p1), .val (.int p2), .val (.int p3), .val (.int p4), .val (.int p5), .val (.int p6), .val (.int (2 : Int32)), .val (.int sa), .val (.int cp), .val (.ref b8), .val (.ref b57), .unset] [(.int (own_con (4 : Int32) sa (2 : Int32) (nar .char r40) (nar .char r49))), (.int ((((own_con (0 : Int32) sa (2 : Int32) 0 (nar .char r13)) + (own_con (1 : Int32) sa (2 : Int32) (nar .char r13) (nar .char r22))) + (own_con (2 : Int32) sa (2 : Int32) (nar .char r22) (nar .char r31))) + (own_con (3 : Int32) sa (2 : Int32) (nar .char r31) (nar .char r40))))])) _
      refine XS.iadd X175.here hx rfl (hb hby at_223) rfl ?_
      show Steps p.tables e below (T175.setTop (mkF m 224 #[.val (.int p1), .val (.int p2), .val (.int p3), .val (.int p4), .val (.int p5), .val (.int p6), .val (.int (2 : Int32)), .val (.int sa), .val (.int cp), .val (.ref b8), .val (.ref b57), .unset] [(.int (((((own_con (0 : Int32) sa (2 : Int32) 0 (nar .char r13)) + (own_con (1 : Int32) sa (2 : Int32) (nar .char r13) (nar .char r22))) + (own_con (2 : Int32) sa (2 : Int32) (nar .char r22) (nar .char r31))) + (own_con (3 : Int32) sa (2 : Int32) (nar .char r31) (nar .char r40))) + (own_con (4 : Int32) sa (2 : Int32) (nar .char r40) (nar .char r49))))])) _
      refine XS.istore X175.here hx rfl (hb hby at_224) rfl (l' := #[.val (.int p1), .val (.int p2), .val (.int p3), .val (.int p4), .val (.int p5), .val (.int p6), .val (.int (2 : Int32)), .val (.int sa), .val (.int cp), .val (.ref b8), .val (.ref b57), .val (.int (((((own_con (0 : Int32) sa (2 : Int32) 0 (nar .char r13)) + (own_con (1 : Int32) sa (2 : Int32) (nar .char r13) (nar .char r22))) + (own_con (2 : Int32) sa (2 : Int32) (nar .char r22) (nar .char r31))) + (own_con (3 : Int32) sa (2 : Int32) (nar .char r31) (nar .char r40))) + (own_con (4 : Int32) sa (2 : Int32) (nar .char r40) (nar .char r49))))]) rfl ?_
      show Steps p.tables e below (T175.setTop (mkF m 226 #[.val (.int p1), .val (.int p2), .val (.int p3), .val (.int p4), .val (.int p5), .val (.int p6), .val (.int (2 : Int32)), .val (.int sa), .val (.int cp), .val (.ref b8), .val (.ref b57), .val (.int (((((own_con (0 : Int32) sa (2 : Int32) 0 (nar .char r13)) + (own_con (1 : Int32) sa (2 : Int32) (nar .char r13) (nar .char r22))) + (own_con (2 : Int32) sa (2 : Int32) (nar .char r22) (nar .char r31))) + (own_con (3 : Int32) sa (2 : Int32) (nar .char r31) (nar .char r40))) + (own_con (4 : Int32) sa (2 : Int32) (nar .char r40) (nar .char r49))))] [])) _
      refine XS.aload X175.here hx rfl (hb hby at_226) rfl rfl ?_
      show Steps p.tables e below (T175.setTop (mkF m 228 #[.val (.int p1), .val (.int p2), .val (.int p3), .val (.int p4), .val (.int p5), .val (.int p6), .val (.int (2 : Int32)), .val (.int sa), .val (.int cp), .val (.ref b8), .val (.ref b57), .val (.int (((((own_con (0 : Int32) sa (2 : Int32) 0 (nar .char r13)) + (own_con (1 : Int32) sa (2 : Int32) (nar .char r13) (nar .char r22))) + (own_con (2 : Int32) sa (2 : Int32) (nar .char r22) (nar .char r31))) + (own_con (3 : Int32) sa (2 : Int32) (nar .char r31) (nar .char r40))) + (own_con (4 : Int32) sa (2 : Int32) (nar .char r40) (nar .char r49))))] [(.ref b57)])) _
      refine XS.iload X175.here hx rfl (hb hby at_228) rfl ?_
      show Steps p.tables e below (T175.setTop (mkF m 230 #[.val (.int p1), .val (.int p2), .val (.int p3), .val (.int p4), .val (.int p5), .val (.int p6), .val (.int (2 : Int32)), .val (.int sa), .val (.int cp), .val (.ref b8), .val (.ref b57), .val (.int (((((own_con (0 : Int32) sa (2 : Int32) 0 (nar .char r13)) + (own_con (1 : Int32) sa (2 : Int32) (nar .char r13) (nar .char r22))) + (own_con (2 : Int32) sa (2 : Int32) (nar .char r22) (nar .char r31))) + (own_con (3 : Int32) sa (2 : Int32) (nar .char r31) (nar .char r40))) + (own_con (4 : Int32) sa (2 : Int32) (nar .char r40) (nar .char r49))))] [(.int sa), (.ref b57)])) _
      exact k
    obtain ⟨hp, hse⟩ := own_hp (by decide) hsa hz148.1
    have hf : ∀ j : Nat, j < (sa + ((2 : Int32) - sa)).toNatClampNeg → vs148.getD j (Value.int (0 : Int32)) = .int ((fun j => ([(nar .char r13), (nar .char r22), (nar .char r31), (nar .char r40), (nar .char r49)] : List Int32).getD j 0) j) := fun j hj => by
      rw [hse] at hj
      have hj' : j < 2 := hj
      match j, hj' with
      | 0, _ => exact ct155.trans (congrArg Value.int (own_nar _))
      | 1, _ => exact ct156.trans (congrArg Value.int (own_nar _))
      | j + 2, h => exact absurd h (by omega)
    obtain ⟨cq179, kq179, q179a, q179b, q179c⟩ := isOf hZ e175 E148'
    obtain ⟨_, _, ⟨T179, L179, kk179, nn179⟩, -, X179, ⟨Lc179, hQ179, lq179, yq179, zq179⟩, st179⟩ := X175.virtualBack hx (y := (⟨"org/arborlog/pattern/LineText", "codePointCount", "(I)I"⟩ : MethodName)) (z := (⟨"org/arborlog/pattern/LineText", "codePointCount", "(I)I"⟩ : MethodName)) hown (mvT hZ (hw _ (List.mem_of_getElem? (i := 51) rfl))) (mvT hZ (hw _ (List.mem_of_getElem? (i := 52) rfl))) (notFace_of_selects (args := #[]) (mvT hZ (hw _ (List.mem_of_getElem? (i := 54) rfl)))) (mvT hZ (hw _ (List.mem_of_getElem? (i := 54) rfl))) (mvT hZ (hw _ (List.mem_of_getElem? (i := 53) rfl))) (by decide) (backOf (W := 0) (rm11 l Z a0 hw [] b57 sa b148 (2 : Int32) kb148 zb148 vs148 (fun j => ([(nar .char r13), (nar .char r22), (nar .char r31), (nar .char r40), (nar .char r49)] : List Int32).getD j 0) T148.heap n0 Z152 Fc148 f154 Vb148 hp hf) hZ (hw _ (List.mem_of_getElem? (i := 55) rfl)) (hw _ (List.mem_of_getElem? (i := 10) rfl)) (by decide) (by decide)) q179a q179c (g := (mkF m 230 #[.val (.int p1), .val (.int p2), .val (.int p3), .val (.int p4), .val (.int p5), .val (.int p6), .val (.int (2 : Int32)), .val (.int sa), .val (.int cp), .val (.ref b8), .val (.ref b57), .val (.int (((((own_con (0 : Int32) sa (2 : Int32) 0 (nar .char r13)) + (own_con (1 : Int32) sa (2 : Int32) (nar .char r13) (nar .char r22))) + (own_con (2 : Int32) sa (2 : Int32) (nar .char r22) (nar .char r31))) + (own_con (3 : Int32) sa (2 : Int32) (nar .char r31) (nar .char r40))) + (own_con (4 : Int32) sa (2 : Int32) (nar .char r40) (nar .char r49))))] [(.int sa), (.ref b57)])) rfl (by rw [hml]; rfl) (Steps.refl _) (argsL := [(.int sa)]) (rest := []) (lenOf pd_9 rfl) rfl (by show 2 * 0 + _ ≤ _; exact Nat.le_of_eq rfl) (hb hby at_230) (fun _ _ => ⟨rfl, e175, (by decide : 5 + 0 ≤ _), (by decide : 35 + 0 ≤ _)⟩)
    dsimp only [Pt.U, Pt.locs, Pt.cells, Pt.slots] at X179 lq179 yq179 zq179 st179 hQ179
    subst lq179 yq179 zq179
    obtain ⟨rfl, Nq179, e179⟩ := hQ179
    have N180 := Fr.app N176 Nq179
    have K181 : ∀ t, Steps p.tables e below (T179.setTop (mkF m 233 #[.val (.int p1), .val (.int p2), .val (.int p3), .val (.int p4), .val (.int p5), .val (.int p6), .val (.int (2 : Int32)), .val (.int sa), .val (.int cp), .val (.ref b8), .val (.ref b57), .val (.int (((((own_con (0 : Int32) sa (2 : Int32) 0 (nar .char r13)) + (own_con (1 : Int32) sa (2 : Int32) (nar .char r13) (nar .char r22))) + (own_con (2 : Int32) sa (2 : Int32) (nar .char r22) (nar .char r31))) + (own_con (3 : Int32) sa (2 : Int32) (nar .char r31) (nar .char r40))) + (own_con (4 : Int32) sa (2 : Int32) (nar .char r40) (nar .char r49))))] [(.int (((2 : Int32) - sa) - own_pr (fun j => ([(nar .char r13), (nar .char r22), (nar .char r31), (nar .char r40), (nar .char r49)] : List Int32).getD j 0) ((2 : Int32) - sa).toNatClampNeg sa.toNatClampNeg))])) t → Steps p.tables e below G t := fun t k => K178 t (st179.trans k)
    have hfin : (((2 : Int32) - sa) - own_pr (fun j => ([(nar .char r13), (nar .char r22), (nar .char r31), (nar .char r40), (nar .char r49)] : List Int32).getD j 0) ((2 : Int32) - sa).toNatClampNeg sa.toNatClampNeg) = (((((own_con (0 : Int32) sa (2 : Int32) 0 (nar .char r13)) + (own_con (1 : Int32) sa (2 : Int32) (nar .char r13) (nar .char r22))) + (own_con (2 : Int32) sa (2 : Int32) (nar .char r22) (nar .char r31))) + (own_con (3 : Int32) sa (2 : Int32) (nar .char r31) (nar .char r40))) + (own_con (4 : Int32) sa (2 : Int32) (nar .char r40) (nar .char r49))) := by
      rcases own_n6 (n := sa) ⟨hsa.1, Int.le_trans hsa.2 (by decide)⟩ with q | q | q | q | q | q <;> rw [q] at hsa ⊢
      · exact own_fin_2_0 _ _ _ _ _ _ rfl rfl rfl rfl rfl
      · exact own_fin_2_1 _ _ _ _ _ _ rfl rfl rfl rfl rfl
      · exact own_fin_2_2 _ _ _ _ _ _ rfl rfl rfl rfl rfl
      · exact absurd hsa.2 (by decide)
      · exact absurd hsa.2 (by decide)
      · exact absurd hsa.2 (by decide)
    obtain ⟨fs, hr, hrun, hended, hW, hsame⟩ := X179.leave (v := some (.int (1 : Int32))) (fun h => by rw [Bd.returns] at h; cases h)
    have KF := K181
    rw [hG] at KF
    refine ⟨_, _, KF _ ?_, hrun, hended, _, _, rfl, ?_, ⟨_, rfl⟩, hW, hsame.mono (by decide) (by decide)⟩
    · show Steps p.tables e below (T179.setTop (mkF m 233 #[.val (.int p1), .val (.int p2), .val (.int p3), .val (.int p4), .val (.int p5), .val (.int p6), .val (.int (2 : Int32)), .val (.int sa), .val (.int cp), .val (.ref b8), .val (.ref b57), .val (.int (((((own_con (0 : Int32) sa (2 : Int32) 0 (nar .char r13)) + (own_con (1 : Int32) sa (2 : Int32) (nar .char r13) (nar .char r22))) + (own_con (2 : Int32) sa (2 : Int32) (nar .char r22) (nar .char r31))) + (own_con (3 : Int32) sa (2 : Int32) (nar .char r31) (nar .char r40))) + (own_con (4 : Int32) sa (2 : Int32) (nar .char r40) (nar .char r49))))] [(.int (((2 : Int32) - sa) - own_pr (fun j => ([(nar .char r13), (nar .char r22), (nar .char r31), (nar .char r40), (nar .char r49)] : List Int32).getD j 0) ((2 : Int32) - sa).toNatClampNeg sa.toNatClampNeg))])) _
      refine XS.iload X179.here hx rfl (hb hby at_233) rfl ?_
      show Steps p.tables e below (T179.setTop (mkF m 235 #[.val (.int p1), .val (.int p2), .val (.int p3), .val (.int p4), .val (.int p5), .val (.int p6), .val (.int (2 : Int32)), .val (.int sa), .val (.int cp), .val (.ref b8), .val (.ref b57), .val (.int (((((own_con (0 : Int32) sa (2 : Int32) 0 (nar .char r13)) + (own_con (1 : Int32) sa (2 : Int32) (nar .char r13) (nar .char r22))) + (own_con (2 : Int32) sa (2 : Int32) (nar .char r22) (nar .char r31))) + (own_con (3 : Int32) sa (2 : Int32) (nar .char r31) (nar .char r40))) + (own_con (4 : Int32) sa (2 : Int32) (nar .char r40) (nar .char r49))))] [(.int (((((own_con (0 : Int32) sa (2 : Int32) 0 (nar .char r13)) + (own_con (1 : Int32) sa (2 : Int32) (nar .char r13) (nar .char r22))) + (own_con (2 : Int32) sa (2 : Int32) (nar .char r22) (nar .char r31))) + (own_con (3 : Int32) sa (2 : Int32) (nar .char r31) (nar .char r40))) + (own_con (4 : Int32) sa (2 : Int32) (nar .char r40) (nar .char r49)))), (.int (((2 : Int32) - sa) - own_pr (fun j => ([(nar .char r13), (nar .char r22), (nar .char r31), (nar .char r40), (nar .char r49)] : List Int32).getD j 0) ((2 : Int32) - sa).toNatClampNeg sa.toNatClampNeg))])) _
      refine XS.icmpNo X179.here hx rfl (hb hby at_235) rfl (teq hfin).2 ?_
      show Steps p.tables e below (T179.setTop (mkF m 238 #[.val (.int p1), .val (.int p2), .val (.int p3), .val (.int p4), .val (.int p5), .val (.int p6), .val (.int (2 : Int32)), .val (.int sa), .val (.int cp), .val (.ref b8), .val (.ref b57), .val (.int (((((own_con (0 : Int32) sa (2 : Int32) 0 (nar .char r13)) + (own_con (1 : Int32) sa (2 : Int32) (nar .char r13) (nar .char r22))) + (own_con (2 : Int32) sa (2 : Int32) (nar .char r22) (nar .char r31))) + (own_con (3 : Int32) sa (2 : Int32) (nar .char r31) (nar .char r40))) + (own_con (4 : Int32) sa (2 : Int32) (nar .char r40) (nar .char r49))))] [])) _
      refine XS.iconst X179.here hx rfl (hb hby at_238) ?_
      show Steps p.tables e below (T179.setTop (mkF m 239 #[.val (.int p1), .val (.int p2), .val (.int p3), .val (.int p4), .val (.int p5), .val (.int p6), .val (.int (2 : Int32)), .val (.int sa), .val (.int cp), .val (.ref b8), .val (.ref b57), .val (.int (((((own_con (0 : Int32) sa (2 : Int32) 0 (nar .char r13)) + (own_con (1 : Int32) sa (2 : Int32) (nar .char r13) (nar .char r22))) + (own_con (2 : Int32) sa (2 : Int32) (nar .char r22) (nar .char r31))) + (own_con (3 : Int32) sa (2 : Int32) (nar .char r31) (nar .char r40))) + (own_con (4 : Int32) sa (2 : Int32) (nar .char r40) (nar .char r49))))] [(.int (1 : Int32))])) _
      refine XS.goto X179.here hx rfl (pc0 := 239) (pc' := 243) rfl (hb hby at_239) (by decide) (by decide) ?_
      show Steps p.tables e below (T179.setTop (mkF m 243 #[.val (.int p1), .val (.int p2), .val (.int p3), .val (.int p4), .val (.int p5), .val (.int p6), .val (.int (2 : Int32)), .val (.int sa), .val (.int cp), .val (.ref b8), .val (.ref b57), .val (.int (((((own_con (0 : Int32) sa (2 : Int32) 0 (nar .char r13)) + (own_con (1 : Int32) sa (2 : Int32) (nar .char r13) (nar .char r22))) + (own_con (2 : Int32) sa (2 : Int32) (nar .char r22) (nar .char r31))) + (own_con (3 : Int32) sa (2 : Int32) (nar .char r31) (nar .char r40))) + (own_con (4 : Int32) sa (2 : Int32) (nar .char r40) (nar .char r49))))] [(.int (1 : Int32))])) _
      exact retN X179 hx (t := .boolean) Bd.returns (by simp) (hb hby at_243) hr
    · show Q0 n0 _ T179.heap _
      rw [e179]
      exact ⟨rfl, N180⟩
  · have K182 : ∀ t, Steps p.tables e below (T65.setTop (mkF m 101 #[.val (.int p1), .val (.int p2), .val (.int p3), .val (.int p4), .val (.int p5), .val (.int p6), .val (.int (3 : Int32)), .val (.int sa), .val (.int cp), .val (.ref b8), .val (.ref b57), .unset] [(.int (0 : Int32)), (.ref b8), (.ref b57)])) t → Steps p.tables e below G t := by
      intro t k
      refine K72 t ?_
      show Steps p.tables e below (T65.setTop (mkF m 91 #[.val (.int p1), .val (.int p2), .val (.int p3), .val (.int p4), .val (.int p5), .val (.int p6), .val (.int (3 : Int32)), .val (.int sa), .val (.int cp), .val (.ref b8), .val (.ref b57), .unset] [])) _
      refine XS.iload X65.here hx rfl (hb hby at_91) rfl ?_
      show Steps p.tables e below (T65.setTop (mkF m 93 #[.val (.int p1), .val (.int p2), .val (.int p3), .val (.int p4), .val (.int p5), .val (.int p6), .val (.int (3 : Int32)), .val (.int sa), .val (.int cp), .val (.ref b8), .val (.ref b57), .unset] [(.int (3 : Int32))])) _
      refine XS.ifNo X65.here hx rfl (hb hby at_93) rfl ((if0 _ _).trans (tlt (by decide)).2.2.2) ?_
      show Steps p.tables e below (T65.setTop (mkF m 96 #[.val (.int p1), .val (.int p2), .val (.int p3), .val (.int p4), .val (.int p5), .val (.int p6), .val (.int (3 : Int32)), .val (.int sa), .val (.int cp), .val (.ref b8), .val (.ref b57), .unset] [])) _
      refine XS.aload X65.here hx rfl (hb hby at_96) rfl rfl ?_
      show Steps p.tables e below (T65.setTop (mkF m 98 #[.val (.int p1), .val (.int p2), .val (.int p3), .val (.int p4), .val (.int p5), .val (.int p6), .val (.int (3 : Int32)), .val (.int sa), .val (.int cp), .val (.ref b8), .val (.ref b57), .unset] [(.ref b57)])) _
      refine XS.aload X65.here hx rfl (hb hby at_98) rfl rfl ?_
      show Steps p.tables e below (T65.setTop (mkF m 100 #[.val (.int p1), .val (.int p2), .val (.int p3), .val (.int p4), .val (.int p5), .val (.int p6), .val (.int (3 : Int32)), .val (.int sa), .val (.int cp), .val (.ref b8), .val (.ref b57), .unset] [(.ref b8), (.ref b57)])) _
      refine XS.iconst X65.here hx rfl (hb hby at_100) ?_
      show Steps p.tables e below (T65.setTop (mkF m 101 #[.val (.int p1), .val (.int p2), .val (.int p3), .val (.int p4), .val (.int p5), .val (.int p6), .val (.int (3 : Int32)), .val (.int sa), .val (.int cp), .val (.ref b8), .val (.ref b57), .unset] [(.int (0 : Int32)), (.ref b8), (.ref b57)])) _
      exact k
    obtain ⟨cl183, Ar183, qc183, S183, M183, Ha183, Ga183⟩ := id f67
    have hin183 : ¬ ((0 : Int32) < 0 ∨ cl183.slots.size ≤ ((0 : Int32)).toNatClampNeg) := inb_of S183 ⟨by decide, by decide⟩
    have hat183 : cl183.slots[((0 : Int32)).toNatClampNeg]? = some (.int (nar .char r13)) := Ha183.at hin183 rfl
    have K184 : ∀ t, Steps p.tables e below (T65.setTop (mkF m 102 #[.val (.int p1), .val (.int p2), .val (.int p3), .val (.int p4), .val (.int p5), .val (.int p6), .val (.int (3 : Int32)), .val (.int sa), .val (.int cp), .val (.ref b8), .val (.ref b57), .unset] [(.int (nar .char r13)), (.ref b57)])) t → Steps p.tables e below G t := fun t k => K182 t (X65.caload hx (j := (0 : Int32)) (v := (.int (nar .char r13))) Ar183.1 (State.isArrayOf_alike hZ.alike Ar183.2.1) Ar183.2.2 hin183 hat183 (g := (mkF m 101 #[.val (.int p1), .val (.int p2), .val (.int p3), .val (.int p4), .val (.int p5), .val (.int p6), .val (.int (3 : Int32)), .val (.int sa), .val (.int cp), .val (.ref b8), .val (.ref b57), .unset] [(.int (0 : Int32)), (.ref b8), (.ref b57)])) rfl rfl (hb hby at_101) _ k)
    obtain ⟨cq185, kq185, q185a, q185b, q185c⟩ := isOf hZ rfl E65'
    obtain ⟨_, _, ⟨T185, L185, kk185, nn185⟩, -, X185, ⟨Lc185, hQ185, lq185, yq185, zq185⟩, st185⟩ := X65.virtualBack hx (y := (⟨"org/arborlog/pattern/LineText", "append", "(C)Lorg/arborlog/pattern/LineText;"⟩ : MethodName)) (z := (⟨"org/arborlog/pattern/LineText", "append", "(C)Lorg/arborlog/pattern/LineText;"⟩ : MethodName)) hown (mvT hZ (hw _ (List.mem_of_getElem? (i := 19) rfl))) (mvT hZ (hw _ (List.mem_of_getElem? (i := 20) rfl))) (notFace_of_selects (args := #[]) (mvT hZ (hw _ (List.mem_of_getElem? (i := 22) rfl)))) (mvT hZ (hw _ (List.mem_of_getElem? (i := 22) rfl))) (mvT hZ (hw _ (List.mem_of_getElem? (i := 21) rfl))) (by decide) (backOf (W := 0) (rm4 l Z a0 hw [] b57 (nar .char r13) b65 kb65 cp (0 : Int32) [] T65.heap n0 Z69 E65' Fc65 Fl65 Vb65 ne_b57_b65 g_b57 g_b65 ⟨by decide, by decide⟩ hc7.1 hc7.2.2) hZ (hw _ (List.mem_of_getElem? (i := 23) rfl)) (hw _ (List.mem_of_getElem? (i := 10) rfl)) (by decide) (by decide)) q185a q185c (g := (mkF m 102 #[.val (.int p1), .val (.int p2), .val (.int p3), .val (.int p4), .val (.int p5), .val (.int p6), .val (.int (3 : Int32)), .val (.int sa), .val (.int cp), .val (.ref b8), .val (.ref b57), .unset] [(.int (nar .char r13)), (.ref b57)])) rfl (by rw [hml]; rfl) (Steps.refl _) (argsL := [(.int (nar .char r13))]) (rest := []) (lenOf pd_10 rfl) rfl (by show 2 * 0 + _ ≤ _; exact Nat.le_of_eq rfl) (hb hby at_102) (fun _ _ => ⟨rfl, rfl, (by decide : 3 + 1 ≤ _), (by decide : 15 + 10 ≤ _)⟩)
    dsimp only [Pt.U, Pt.locs, Pt.cells, Pt.slots] at X185 lq185 yq185 zq185 st185 hQ185
    subst lq185 yq185 zq185
    obtain ⟨b185, kb185, zb185, vs185, rfl, Nq185, K185, ob185, E185', Fc185, Fl185, Vb185, hz185, hc185, hd185⟩ := hQ185
    have N186 := Fr.app N66 Nq185
    have gb185 : n0 ≤ b185 := ob185.elim (fun q => q ▸ g_b65) (fun q => Nat.le_trans Z69 q)
    have sz185 : h0.size ≤ b185 := ob185.elim (fun q => q ▸ sz_b65) (fun q => Nat.le_trans KP70.1 q)
    have ne_b8_b185 : b8 ≠ b185 := ob185.elim (fun q => q ▸ ne_b8_b65) (fun q => Nat.ne_of_lt (Nat.lt_of_lt_of_le f67.lt q))
    have ne_b57_b185 : b57 ≠ b185 := ob185.elim (fun q => q ▸ ne_b57_b65) (fun q => Nat.ne_of_lt (Nat.lt_of_lt_of_le E65'.lt q))
    have f187 := f67.keep K185 (ninS ne_b8_b57 (ninS ne_b8_b65 nin0))
    have f188 := E65'.keep K185
    have Z189 : n0 ≤ T185.heap.size := Nat.le_trans Z69 K185.1
    have KP190 : Keep h0 T185.heap [] := KP70.trans K185 (allS (Or.inr sz_b57) (allS (Or.inr sz_b65) all0))
    have f191 : Fld Z T185.heap b57 "org/arborlog/pattern/LineText" "length" "I" (.int (1 : Int32)) := Fl185
    have ct192 : vs185.getD 0 (Value.int (0 : Int32)) = .int (nar .char (nar .char r13)) := hd185
    have K193 : ∀ t, Steps p.tables e below (T185.setTop (mkF m 105 #[.val (.int p1), .val (.int p2), .val (.int p3), .val (.int p4), .val (.int p5), .val (.int p6), .val (.int (3 : Int32)), .val (.int sa), .val (.int cp), .val (.ref b8), .val (.ref b57), .unset] [(.ref b57)])) t → Steps p.tables e below G t := fun t k => K184 t (st185.trans k)
    have K194 : ∀ t, Steps p.tables e below (T185.setTop (mkF m 117 #[.val (.int p1), .val (.int p2), .val (.int p3), .val (.int p4), .val (.int p5), .val (.int p6), .val (.int (3 : Int32)), .val (.int sa), .val (.int cp), .val (.ref b8), .val (.ref b57), .unset] [(.int (1 : Int32)), (.ref b8), (.ref b57)])) t → Steps p.tables e below G t := by
      intro t k
      refine K193 t ?_
      show Steps p.tables e below (T185.setTop (mkF m 105 #[.val (.int p1), .val (.int p2), .val (.int p3), .val (.int p4), .val (.int p5), .val (.int p6), .val (.int (3 : Int32)), .val (.int sa), .val (.int cp), .val (.ref b8), .val (.ref b57), .unset] [(.ref b57)])) _
      refine XS.pop X185.here hx rfl (hb hby at_105) rfl rfl ?_
      show Steps p.tables e below (T185.setTop (mkF m 106 #[.val (.int p1), .val (.int p2), .val (.int p3), .val (.int p4), .val (.int p5), .val (.int p6), .val (.int (3 : Int32)), .val (.int sa), .val (.int cp), .val (.ref b8), .val (.ref b57), .unset] [])) _
      refine XS.iload X185.here hx rfl (hb hby at_106) rfl ?_
      show Steps p.tables e below (T185.setTop (mkF m 108 #[.val (.int p1), .val (.int p2), .val (.int p3), .val (.int p4), .val (.int p5), .val (.int p6), .val (.int (3 : Int32)), .val (.int sa), .val (.int cp), .val (.ref b8), .val (.ref b57), .unset] [(.int (3 : Int32))])) _
      refine XS.iconst X185.here hx rfl (hb hby at_108) ?_
      show Steps p.tables e below (T185.setTop (mkF m 109 #[.val (.int p1), .val (.int p2), .val (.int p3), .val (.int p4), .val (.int p5), .val (.int p6), .val (.int (3 : Int32)), .val (.int sa), .val (.int cp), .val (.ref b8), .val (.ref b57), .unset] [(.int (1 : Int32)), (.int (3 : Int32))])) _
      refine XS.icmpNo X185.here hx rfl (hb hby at_109) rfl (tlt (by decide)).2.2.2 ?_
      show Steps p.tables e below (T185.setTop (mkF m 112 #[.val (.int p1), .val (.int p2), .val (.int p3), .val (.int p4), .val (.int p5), .val (.int p6), .val (.int (3 : Int32)), .val (.int sa), .val (.int cp), .val (.ref b8), .val (.ref b57), .unset] [])) _
      refine XS.aload X185.here hx rfl (hb hby at_112) rfl rfl ?_
      show Steps p.tables e below (T185.setTop (mkF m 114 #[.val (.int p1), .val (.int p2), .val (.int p3), .val (.int p4), .val (.int p5), .val (.int p6), .val (.int (3 : Int32)), .val (.int sa), .val (.int cp), .val (.ref b8), .val (.ref b57), .unset] [(.ref b57)])) _
      refine XS.aload X185.here hx rfl (hb hby at_114) rfl rfl ?_
      show Steps p.tables e below (T185.setTop (mkF m 116 #[.val (.int p1), .val (.int p2), .val (.int p3), .val (.int p4), .val (.int p5), .val (.int p6), .val (.int (3 : Int32)), .val (.int sa), .val (.int cp), .val (.ref b8), .val (.ref b57), .unset] [(.ref b8), (.ref b57)])) _
      refine XS.iconst X185.here hx rfl (hb hby at_116) ?_
      show Steps p.tables e below (T185.setTop (mkF m 117 #[.val (.int p1), .val (.int p2), .val (.int p3), .val (.int p4), .val (.int p5), .val (.int p6), .val (.int (3 : Int32)), .val (.int sa), .val (.int cp), .val (.ref b8), .val (.ref b57), .unset] [(.int (1 : Int32)), (.ref b8), (.ref b57)])) _
      exact k
    obtain ⟨cl195, Ar195, qc195, S195, M195, Ha195, Ga195⟩ := id f187
    have hin195 : ¬ ((1 : Int32) < 0 ∨ cl195.slots.size ≤ ((1 : Int32)).toNatClampNeg) := inb_of S195 ⟨by decide, by decide⟩
    have hat195 : cl195.slots[((1 : Int32)).toNatClampNeg]? = some (.int (nar .char r22)) := Ha195.at hin195 rfl
    have K196 : ∀ t, Steps p.tables e below (T185.setTop (mkF m 118 #[.val (.int p1), .val (.int p2), .val (.int p3), .val (.int p4), .val (.int p5), .val (.int p6), .val (.int (3 : Int32)), .val (.int sa), .val (.int cp), .val (.ref b8), .val (.ref b57), .unset] [(.int (nar .char r22)), (.ref b57)])) t → Steps p.tables e below G t := fun t k => K194 t (X185.caload hx (j := (1 : Int32)) (v := (.int (nar .char r22))) Ar195.1 (State.isArrayOf_alike hZ.alike Ar195.2.1) Ar195.2.2 hin195 hat195 (g := (mkF m 117 #[.val (.int p1), .val (.int p2), .val (.int p3), .val (.int p4), .val (.int p5), .val (.int p6), .val (.int (3 : Int32)), .val (.int sa), .val (.int cp), .val (.ref b8), .val (.ref b57), .unset] [(.int (1 : Int32)), (.ref b8), (.ref b57)])) rfl rfl (hb hby at_117) _ k)
    obtain ⟨cq197, kq197, q197a, q197b, q197c⟩ := isOf hZ rfl E185'
    obtain ⟨_, _, ⟨T197, L197, kk197, nn197⟩, -, X197, ⟨Lc197, hQ197, lq197, yq197, zq197⟩, st197⟩ := X185.virtualBack hx (y := (⟨"org/arborlog/pattern/LineText", "append", "(C)Lorg/arborlog/pattern/LineText;"⟩ : MethodName)) (z := (⟨"org/arborlog/pattern/LineText", "append", "(C)Lorg/arborlog/pattern/LineText;"⟩ : MethodName)) hown (mvT hZ (hw _ (List.mem_of_getElem? (i := 19) rfl))) (mvT hZ (hw _ (List.mem_of_getElem? (i := 20) rfl))) (notFace_of_selects (args := #[]) (mvT hZ (hw _ (List.mem_of_getElem? (i := 22) rfl)))) (mvT hZ (hw _ (List.mem_of_getElem? (i := 22) rfl))) (mvT hZ (hw _ (List.mem_of_getElem? (i := 21) rfl))) (by decide) (backOf (W := 0) (rm4 l Z a0 hw [] b57 (nar .char r22) b185 kb185 zb185 (1 : Int32) vs185 T185.heap n0 Z189 E185' Fc185 f191 Vb185 ne_b57_b185 g_b57 gb185 ⟨by decide, by decide⟩ hz185.1 hz185.2) hZ (hw _ (List.mem_of_getElem? (i := 23) rfl)) (hw _ (List.mem_of_getElem? (i := 10) rfl)) (by decide) (by decide)) q197a q197c (g := (mkF m 118 #[.val (.int p1), .val (.int p2), .val (.int p3), .val (.int p4), .val (.int p5), .val (.int p6), .val (.int (3 : Int32)), .val (.int sa), .val (.int cp), .val (.ref b8), .val (.ref b57), .unset] [(.int (nar .char r22)), (.ref b57)])) rfl (by rw [hml]; rfl) (Steps.refl _) (argsL := [(.int (nar .char r22))]) (rest := []) (lenOf pd_10 rfl) rfl (by show 2 * 0 + _ ≤ _; exact Nat.le_of_eq rfl) (hb hby at_118) (fun _ _ => ⟨rfl, rfl, (by decide : 4 + 1 ≤ _), (by decide : 25 + 10 ≤ _)⟩)
    dsimp only [Pt.U, Pt.locs, Pt.cells, Pt.slots] at X197 lq197 yq197 zq197 st197 hQ197
    subst lq197 yq197 zq197
    obtain ⟨b197, kb197, zb197, vs197, rfl, Nq197, K197, ob197, E197', Fc197, Fl197, Vb197, hz197, hc197, hd197⟩ := hQ197
    have N198 := Fr.app N186 Nq197
    have gb197 : n0 ≤ b197 := ob197.elim (fun q => q ▸ gb185) (fun q => Nat.le_trans Z189 q)
    have sz197 : h0.size ≤ b197 := ob197.elim (fun q => q ▸ sz185) (fun q => Nat.le_trans KP190.1 q)
    have ne_b8_b197 : b8 ≠ b197 := ob197.elim (fun q => q ▸ ne_b8_b185) (fun q => Nat.ne_of_lt (Nat.lt_of_lt_of_le f187.lt q))
    have ne_b57_b197 : b57 ≠ b197 := ob197.elim (fun q => q ▸ ne_b57_b185) (fun q => Nat.ne_of_lt (Nat.lt_of_lt_of_le E185'.lt q))
    have f199 := f187.keep K197 (ninS ne_b8_b57 (ninS ne_b8_b185 nin0))
    have f200 := E185'.keep K197
    have Z201 : n0 ≤ T197.heap.size := Nat.le_trans Z189 K197.1
    have KP202 : Keep h0 T197.heap [] := KP190.trans K197 (allS (Or.inr sz_b57) (allS (Or.inr sz185) all0))
    have f203 : Fld Z T197.heap b57 "org/arborlog/pattern/LineText" "length" "I" (.int (2 : Int32)) := Fl197
    have ct204 : vs197.getD 0 (Value.int (0 : Int32)) = .int (nar .char (nar .char r13)) := (hc197 0 (by decide)).trans ct192
    have ct205 : vs197.getD 1 (Value.int (0 : Int32)) = .int (nar .char (nar .char r22)) := hd197
    have K206 : ∀ t, Steps p.tables e below (T197.setTop (mkF m 121 #[.val (.int p1), .val (.int p2), .val (.int p3), .val (.int p4), .val (.int p5), .val (.int p6), .val (.int (3 : Int32)), .val (.int sa), .val (.int cp), .val (.ref b8), .val (.ref b57), .unset] [(.ref b57)])) t → Steps p.tables e below G t := fun t k => K196 t (st197.trans k)
    have K207 : ∀ t, Steps p.tables e below (T197.setTop (mkF m 133 #[.val (.int p1), .val (.int p2), .val (.int p3), .val (.int p4), .val (.int p5), .val (.int p6), .val (.int (3 : Int32)), .val (.int sa), .val (.int cp), .val (.ref b8), .val (.ref b57), .unset] [(.int (2 : Int32)), (.ref b8), (.ref b57)])) t → Steps p.tables e below G t := by
      intro t k
      refine K206 t ?_
      show Steps p.tables e below (T197.setTop (mkF m 121 #[.val (.int p1), .val (.int p2), .val (.int p3), .val (.int p4), .val (.int p5), .val (.int p6), .val (.int (3 : Int32)), .val (.int sa), .val (.int cp), .val (.ref b8), .val (.ref b57), .unset] [(.ref b57)])) _
      refine XS.pop X197.here hx rfl (hb hby at_121) rfl rfl ?_
      show Steps p.tables e below (T197.setTop (mkF m 122 #[.val (.int p1), .val (.int p2), .val (.int p3), .val (.int p4), .val (.int p5), .val (.int p6), .val (.int (3 : Int32)), .val (.int sa), .val (.int cp), .val (.ref b8), .val (.ref b57), .unset] [])) _
      refine XS.iload X197.here hx rfl (hb hby at_122) rfl ?_
      show Steps p.tables e below (T197.setTop (mkF m 124 #[.val (.int p1), .val (.int p2), .val (.int p3), .val (.int p4), .val (.int p5), .val (.int p6), .val (.int (3 : Int32)), .val (.int sa), .val (.int cp), .val (.ref b8), .val (.ref b57), .unset] [(.int (3 : Int32))])) _
      refine XS.iconst X197.here hx rfl (hb hby at_124) ?_
      show Steps p.tables e below (T197.setTop (mkF m 125 #[.val (.int p1), .val (.int p2), .val (.int p3), .val (.int p4), .val (.int p5), .val (.int p6), .val (.int (3 : Int32)), .val (.int sa), .val (.int cp), .val (.ref b8), .val (.ref b57), .unset] [(.int (2 : Int32)), (.int (3 : Int32))])) _
      refine XS.icmpNo X197.here hx rfl (hb hby at_125) rfl (tlt (by decide)).2.2.2 ?_
      show Steps p.tables e below (T197.setTop (mkF m 128 #[.val (.int p1), .val (.int p2), .val (.int p3), .val (.int p4), .val (.int p5), .val (.int p6), .val (.int (3 : Int32)), .val (.int sa), .val (.int cp), .val (.ref b8), .val (.ref b57), .unset] [])) _
      refine XS.aload X197.here hx rfl (hb hby at_128) rfl rfl ?_
      show Steps p.tables e below (T197.setTop (mkF m 130 #[.val (.int p1), .val (.int p2), .val (.int p3), .val (.int p4), .val (.int p5), .val (.int p6), .val (.int (3 : Int32)), .val (.int sa), .val (.int cp), .val (.ref b8), .val (.ref b57), .unset] [(.ref b57)])) _
      refine XS.aload X197.here hx rfl (hb hby at_130) rfl rfl ?_
      show Steps p.tables e below (T197.setTop (mkF m 132 #[.val (.int p1), .val (.int p2), .val (.int p3), .val (.int p4), .val (.int p5), .val (.int p6), .val (.int (3 : Int32)), .val (.int sa), .val (.int cp), .val (.ref b8), .val (.ref b57), .unset] [(.ref b8), (.ref b57)])) _
      refine XS.iconst X197.here hx rfl (hb hby at_132) ?_
      show Steps p.tables e below (T197.setTop (mkF m 133 #[.val (.int p1), .val (.int p2), .val (.int p3), .val (.int p4), .val (.int p5), .val (.int p6), .val (.int (3 : Int32)), .val (.int sa), .val (.int cp), .val (.ref b8), .val (.ref b57), .unset] [(.int (2 : Int32)), (.ref b8), (.ref b57)])) _
      exact k
    obtain ⟨cl208, Ar208, qc208, S208, M208, Ha208, Ga208⟩ := id f199
    have hin208 : ¬ ((2 : Int32) < 0 ∨ cl208.slots.size ≤ ((2 : Int32)).toNatClampNeg) := inb_of S208 ⟨by decide, by decide⟩
    have hat208 : cl208.slots[((2 : Int32)).toNatClampNeg]? = some (.int (nar .char r31)) := Ha208.at hin208 rfl
    have K209 : ∀ t, Steps p.tables e below (T197.setTop (mkF m 134 #[.val (.int p1), .val (.int p2), .val (.int p3), .val (.int p4), .val (.int p5), .val (.int p6), .val (.int (3 : Int32)), .val (.int sa), .val (.int cp), .val (.ref b8), .val (.ref b57), .unset] [(.int (nar .char r31)), (.ref b57)])) t → Steps p.tables e below G t := fun t k => K207 t (X197.caload hx (j := (2 : Int32)) (v := (.int (nar .char r31))) Ar208.1 (State.isArrayOf_alike hZ.alike Ar208.2.1) Ar208.2.2 hin208 hat208 (g := (mkF m 133 #[.val (.int p1), .val (.int p2), .val (.int p3), .val (.int p4), .val (.int p5), .val (.int p6), .val (.int (3 : Int32)), .val (.int sa), .val (.int cp), .val (.ref b8), .val (.ref b57), .unset] [(.int (2 : Int32)), (.ref b8), (.ref b57)])) rfl rfl (hb hby at_133) _ k)
    obtain ⟨cq210, kq210, q210a, q210b, q210c⟩ := isOf hZ rfl E197'
    obtain ⟨_, _, ⟨T210, L210, kk210, nn210⟩, -, X210, ⟨Lc210, hQ210, lq210, yq210, zq210⟩, st210⟩ := X197.virtualBack hx (y := (⟨"org/arborlog/pattern/LineText", "append", "(C)Lorg/arborlog/pattern/LineText;"⟩ : MethodName)) (z := (⟨"org/arborlog/pattern/LineText", "append", "(C)Lorg/arborlog/pattern/LineText;"⟩ : MethodName)) hown (mvT hZ (hw _ (List.mem_of_getElem? (i := 19) rfl))) (mvT hZ (hw _ (List.mem_of_getElem? (i := 20) rfl))) (notFace_of_selects (args := #[]) (mvT hZ (hw _ (List.mem_of_getElem? (i := 22) rfl)))) (mvT hZ (hw _ (List.mem_of_getElem? (i := 22) rfl))) (mvT hZ (hw _ (List.mem_of_getElem? (i := 21) rfl))) (by decide) (backOf (W := 0) (rm4 l Z a0 hw [] b57 (nar .char r31) b197 kb197 zb197 (2 : Int32) vs197 T197.heap n0 Z201 E197' Fc197 f203 Vb197 ne_b57_b197 g_b57 gb197 ⟨by decide, by decide⟩ hz197.1 hz197.2) hZ (hw _ (List.mem_of_getElem? (i := 23) rfl)) (hw _ (List.mem_of_getElem? (i := 10) rfl)) (by decide) (by decide)) q210a q210c (g := (mkF m 134 #[.val (.int p1), .val (.int p2), .val (.int p3), .val (.int p4), .val (.int p5), .val (.int p6), .val (.int (3 : Int32)), .val (.int sa), .val (.int cp), .val (.ref b8), .val (.ref b57), .unset] [(.int (nar .char r31)), (.ref b57)])) rfl (by rw [hml]; rfl) (Steps.refl _) (argsL := [(.int (nar .char r31))]) (rest := []) (lenOf pd_10 rfl) rfl (by show 2 * 0 + _ ≤ _; exact Nat.le_of_eq rfl) (hb hby at_134) (fun _ _ => ⟨rfl, rfl, (by decide : 5 + 1 ≤ _), (by decide : 35 + 10 ≤ _)⟩)
    dsimp only [Pt.U, Pt.locs, Pt.cells, Pt.slots] at X210 lq210 yq210 zq210 st210 hQ210
    subst lq210 yq210 zq210
    obtain ⟨b210, kb210, zb210, vs210, rfl, Nq210, K210, ob210, E210', Fc210, Fl210, Vb210, hz210, hc210, hd210⟩ := hQ210
    have N211 := Fr.app N198 Nq210
    have gb210 : n0 ≤ b210 := ob210.elim (fun q => q ▸ gb197) (fun q => Nat.le_trans Z201 q)
    have sz210 : h0.size ≤ b210 := ob210.elim (fun q => q ▸ sz197) (fun q => Nat.le_trans KP202.1 q)
    have ne_b8_b210 : b8 ≠ b210 := ob210.elim (fun q => q ▸ ne_b8_b197) (fun q => Nat.ne_of_lt (Nat.lt_of_lt_of_le f199.lt q))
    have ne_b57_b210 : b57 ≠ b210 := ob210.elim (fun q => q ▸ ne_b57_b197) (fun q => Nat.ne_of_lt (Nat.lt_of_lt_of_le E197'.lt q))
    have f212 := f199.keep K210 (ninS ne_b8_b57 (ninS ne_b8_b197 nin0))
    have f213 := E197'.keep K210
    have Z214 : n0 ≤ T210.heap.size := Nat.le_trans Z201 K210.1
    have KP215 : Keep h0 T210.heap [] := KP202.trans K210 (allS (Or.inr sz_b57) (allS (Or.inr sz197) all0))
    have f216 : Fld Z T210.heap b57 "org/arborlog/pattern/LineText" "length" "I" (.int (3 : Int32)) := Fl210
    have ct217 : vs210.getD 0 (Value.int (0 : Int32)) = .int (nar .char (nar .char r13)) := (hc210 0 (by decide)).trans ct204
    have ct218 : vs210.getD 1 (Value.int (0 : Int32)) = .int (nar .char (nar .char r22)) := (hc210 1 (by decide)).trans ct205
    have ct219 : vs210.getD 2 (Value.int (0 : Int32)) = .int (nar .char (nar .char r31)) := hd210
    have K220 : ∀ t, Steps p.tables e below (T210.setTop (mkF m 137 #[.val (.int p1), .val (.int p2), .val (.int p3), .val (.int p4), .val (.int p5), .val (.int p6), .val (.int (3 : Int32)), .val (.int sa), .val (.int cp), .val (.ref b8), .val (.ref b57), .unset] [(.ref b57)])) t → Steps p.tables e below G t := fun t k => K209 t (st210.trans k)
    have K221 : ∀ t, Steps p.tables e below (T210.setTop (mkF m 177 #[.val (.int p1), .val (.int p2), .val (.int p3), .val (.int p4), .val (.int p5), .val (.int p6), .val (.int (3 : Int32)), .val (.int sa), .val (.int cp), .val (.ref b8), .val (.ref b57), .unset] [(.int (3 : Int32)), (.int sa), (.int (0 : Int32)), (.ref b8)])) t → Steps p.tables e below G t := by
      intro t k
      refine K220 t ?_
      show Steps p.tables e below (T210.setTop (mkF m 137 #[.val (.int p1), .val (.int p2), .val (.int p3), .val (.int p4), .val (.int p5), .val (.int p6), .val (.int (3 : Int32)), .val (.int sa), .val (.int cp), .val (.ref b8), .val (.ref b57), .unset] [(.ref b57)])) _
      refine XS.pop X210.here hx rfl (hb hby at_137) rfl rfl ?_
      show Steps p.tables e below (T210.setTop (mkF m 138 #[.val (.int p1), .val (.int p2), .val (.int p3), .val (.int p4), .val (.int p5), .val (.int p6), .val (.int (3 : Int32)), .val (.int sa), .val (.int cp), .val (.ref b8), .val (.ref b57), .unset] [])) _
      refine XS.iload X210.here hx rfl (hb hby at_138) rfl ?_
      show Steps p.tables e below (T210.setTop (mkF m 140 #[.val (.int p1), .val (.int p2), .val (.int p3), .val (.int p4), .val (.int p5), .val (.int p6), .val (.int (3 : Int32)), .val (.int sa), .val (.int cp), .val (.ref b8), .val (.ref b57), .unset] [(.int (3 : Int32))])) _
      refine XS.iconst X210.here hx rfl (hb hby at_140) ?_
      show Steps p.tables e below (T210.setTop (mkF m 141 #[.val (.int p1), .val (.int p2), .val (.int p3), .val (.int p4), .val (.int p5), .val (.int p6), .val (.int (3 : Int32)), .val (.int sa), .val (.int cp), .val (.ref b8), .val (.ref b57), .unset] [(.int (3 : Int32)), (.int (3 : Int32))])) _
      refine XS.icmpYes X210.here hx rfl (pc0 := 141) (pc' := 154) rfl (hb hby at_141) rfl (flt (by decide)).2.2.2 (by decide) (by decide) ?_
      show Steps p.tables e below (T210.setTop (mkF m 154 #[.val (.int p1), .val (.int p2), .val (.int p3), .val (.int p4), .val (.int p5), .val (.int p6), .val (.int (3 : Int32)), .val (.int sa), .val (.int cp), .val (.ref b8), .val (.ref b57), .unset] [])) _
      refine XS.iload X210.here hx rfl (hb hby at_154) rfl ?_
      show Steps p.tables e below (T210.setTop (mkF m 156 #[.val (.int p1), .val (.int p2), .val (.int p3), .val (.int p4), .val (.int p5), .val (.int p6), .val (.int (3 : Int32)), .val (.int sa), .val (.int cp), .val (.ref b8), .val (.ref b57), .unset] [(.int (3 : Int32))])) _
      refine XS.iconst X210.here hx rfl (hb hby at_156) ?_
      show Steps p.tables e below (T210.setTop (mkF m 157 #[.val (.int p1), .val (.int p2), .val (.int p3), .val (.int p4), .val (.int p5), .val (.int p6), .val (.int (3 : Int32)), .val (.int sa), .val (.int cp), .val (.ref b8), .val (.ref b57), .unset] [(.int (4 : Int32)), (.int (3 : Int32))])) _
      refine XS.icmpYes X210.here hx rfl (pc0 := 157) (pc' := 170) rfl (hb hby at_157) rfl (flt (by decide)).2.2.2 (by decide) (by decide) ?_
      show Steps p.tables e below (T210.setTop (mkF m 170 #[.val (.int p1), .val (.int p2), .val (.int p3), .val (.int p4), .val (.int p5), .val (.int p6), .val (.int (3 : Int32)), .val (.int sa), .val (.int cp), .val (.ref b8), .val (.ref b57), .unset] [])) _
      refine XS.aload X210.here hx rfl (hb hby at_170) rfl rfl ?_
      show Steps p.tables e below (T210.setTop (mkF m 172 #[.val (.int p1), .val (.int p2), .val (.int p3), .val (.int p4), .val (.int p5), .val (.int p6), .val (.int (3 : Int32)), .val (.int sa), .val (.int cp), .val (.ref b8), .val (.ref b57), .unset] [(.ref b8)])) _
      refine XS.iconst X210.here hx rfl (hb hby at_172) ?_
      show Steps p.tables e below (T210.setTop (mkF m 173 #[.val (.int p1), .val (.int p2), .val (.int p3), .val (.int p4), .val (.int p5), .val (.int p6), .val (.int (3 : Int32)), .val (.int sa), .val (.int cp), .val (.ref b8), .val (.ref b57), .unset] [(.int (0 : Int32)), (.ref b8)])) _
      refine XS.iload X210.here hx rfl (hb hby at_173) rfl ?_
      show Steps p.tables e below (T210.setTop (mkF m 175 #[.val (.int p1), .val (.int p2), .val (.int p3), .val (.int p4), .val (.int p5), .val (.int p6), .val (.int (3 : Int32)), .val (.int sa), .val (.int cp), .val (.ref b8), .val (.ref b57), .unset] [(.int sa), (.int (0 : Int32)), (.ref b8)])) _
      refine XS.iload X210.here hx rfl (hb hby at_175) rfl ?_
      show Steps p.tables e below (T210.setTop (mkF m 177 #[.val (.int p1), .val (.int p2), .val (.int p3), .val (.int p4), .val (.int p5), .val (.int p6), .val (.int (3 : Int32)), .val (.int sa), .val (.int cp), .val (.ref b8), .val (.ref b57), .unset] [(.int (3 : Int32)), (.int sa), (.int (0 : Int32)), (.ref b8)])) _
      exact k
    obtain ⟨_, _, ⟨T222, L222, kk222, nn222⟩, -, X222, ⟨Lc222, hQ222, lq222, yq222, zq222⟩, st222⟩ := Jvm.LawKit.callS X210 hx (y := (⟨"org/arborlog/pattern/LineTextCodePointCountPinLaw", "contrib", "([CIII)I"⟩ : MethodName)) hown (mvT hZ (hw _ (List.mem_of_getElem? (i := 45) rfl))) (mvT hZ (hw _ (List.mem_of_getElem? (i := 46) rfl))) (mvT hZ (hw _ (List.mem_of_getElem? (i := 3) rfl))) (mvT hZ (hw _ (List.mem_of_getElem? (i := 47) rfl))) (by decide) (backOf (W := 0) (rm9 l Z a0 hw [] b8 (0 : Int32) sa (3 : Int32) kn8 [(.int (nar .char r13)), (.int (nar .char r22)), (.int (nar .char r31)), (.int (nar .char r40)), (.int (nar .char r49))] 0 (nar .char r13) T210.heap n0 Z214 f212 (fun q => absurd q hsa0) ⟨⟨by decide, by decide⟩, rfl⟩) hZ (hw _ (List.mem_of_getElem? (i := 47) rfl)) (hw _ (List.mem_of_getElem? (i := 3) rfl)) (by decide) (by decide)) (g := (mkF m 177 #[.val (.int p1), .val (.int p2), .val (.int p3), .val (.int p4), .val (.int p5), .val (.int p6), .val (.int (3 : Int32)), .val (.int sa), .val (.int cp), .val (.ref b8), .val (.ref b57), .unset] [(.int (3 : Int32)), (.int sa), (.int (0 : Int32)), (.ref b8)])) rfl (by rw [hml]; rfl) (argsL := [(.ref b8), (.int (0 : Int32)), (.int sa), (.int (3 : Int32))]) (rest := []) (lenOf pd_8 rfl) rfl (by show 2 * 0 + _ ≤ _; exact Nat.le_of_eq rfl) (hb hby at_177) (fun _ _ => ⟨rfl, rfl, (by decide : 6 + 0 ≤ _), (by decide : 45 + 0 ≤ _)⟩)
    dsimp only [Pt.U, Pt.locs, Pt.cells, Pt.slots] at X222 lq222 yq222 zq222 st222 hQ222
    subst lq222 yq222 zq222
    obtain ⟨rfl, Nq222, e222⟩ := hQ222
    have N223 := Fr.app N211 Nq222
    have K224 : ∀ t, Steps p.tables e below (T222.setTop (mkF m 180 #[.val (.int p1), .val (.int p2), .val (.int p3), .val (.int p4), .val (.int p5), .val (.int p6), .val (.int (3 : Int32)), .val (.int sa), .val (.int cp), .val (.ref b8), .val (.ref b57), .unset] [(.int (own_con (0 : Int32) sa (3 : Int32) 0 (nar .char r13)))])) t → Steps p.tables e below G t := fun t k => K221 t (st222 _ k)
    have K225 : ∀ t, Steps p.tables e below (T222.setTop (mkF m 187 #[.val (.int p1), .val (.int p2), .val (.int p3), .val (.int p4), .val (.int p5), .val (.int p6), .val (.int (3 : Int32)), .val (.int sa), .val (.int cp), .val (.ref b8), .val (.ref b57), .unset] [(.int (3 : Int32)), (.int sa), (.int (1 : Int32)), (.ref b8), (.int (own_con (0 : Int32) sa (3 : Int32) 0 (nar .char r13)))])) t → Steps p.tables e below G t := by
      intro t k
      refine K224 t ?_
      show Steps p.tables e below (T222.setTop (mkF m 180 #[.val (.int p1), .val (.int p2), .val (.int p3), .val (.int p4), .val (.int p5), .val (.int p6), .val (.int (3 : Int32)), .val (.int sa), .val (.int cp), .val (.ref b8), .val (.ref b57), .unset] [(.int (own_con (0 : Int32) sa (3 : Int32) 0 (nar .char r13)))])) _
      refine XS.aload X222.here hx rfl (hb hby at_180) rfl rfl ?_
      show Steps p.tables e below (T222.setTop (mkF m 182 #[.val (.int p1), .val (.int p2), .val (.int p3), .val (.int p4), .val (.int p5), .val (.int p6), .val (.int (3 : Int32)), .val (.int sa), .val (.int cp), .val (.ref b8), .val (.ref b57), .unset] [(.ref b8), (.int (own_con (0 : Int32) sa (3 : Int32) 0 (nar .char r13)))])) _
      refine XS.iconst X222.here hx rfl (hb hby at_182) ?_
      show Steps p.tables e below (T222.setTop (mkF m 183 #[.val (.int p1), .val (.int p2), .val (.int p3), .val (.int p4), .val (.int p5), .val (.int p6), .val (.int (3 : Int32)), .val (.int sa), .val (.int cp), .val (.ref b8), .val (.ref b57), .unset] [(.int (1 : Int32)), (.ref b8), (.int (own_con (0 : Int32) sa (3 : Int32) 0 (nar .char r13)))])) _
      refine XS.iload X222.here hx rfl (hb hby at_183) rfl ?_
      show Steps p.tables e below (T222.setTop (mkF m 185 #[.val (.int p1), .val (.int p2), .val (.int p3), .val (.int p4), .val (.int p5), .val (.int p6), .val (.int (3 : Int32)), .val (.int sa), .val (.int cp), .val (.ref b8), .val (.ref b57), .unset] [(.int sa), (.int (1 : Int32)), (.ref b8), (.int (own_con (0 : Int32) sa (3 : Int32) 0 (nar .char r13)))])) _
      refine XS.iload X222.here hx rfl (hb hby at_185) rfl ?_
      show Steps p.tables e below (T222.setTop (mkF m 187 #[.val (.int p1), .val (.int p2), .val (.int p3), .val (.int p4), .val (.int p5), .val (.int p6), .val (.int (3 : Int32)), .val (.int sa), .val (.int cp), .val (.ref b8), .val (.ref b57), .unset] [(.int (3 : Int32)), (.int sa), (.int (1 : Int32)), (.ref b8), (.int (own_con (0 : Int32) sa (3 : Int32) 0 (nar .char r13)))])) _
      exact k
    obtain ⟨_, _, ⟨T226, L226, kk226, nn226⟩, -, X226, ⟨Lc226, hQ226, lq226, yq226, zq226⟩, st226⟩ := Jvm.LawKit.callS X222 hx (y := (⟨"org/arborlog/pattern/LineTextCodePointCountPinLaw", "contrib", "([CIII)I"⟩ : MethodName)) hown (mvT hZ (hw _ (List.mem_of_getElem? (i := 45) rfl))) (mvT hZ (hw _ (List.mem_of_getElem? (i := 46) rfl))) (mvT hZ (hw _ (List.mem_of_getElem? (i := 3) rfl))) (mvT hZ (hw _ (List.mem_of_getElem? (i := 47) rfl))) (by decide) (backOf (W := 1) (rm9 l Z a0 hw [] b8 (1 : Int32) sa (3 : Int32) kn8 [(.int (nar .char r13)), (.int (nar .char r22)), (.int (nar .char r31)), (.int (nar .char r40)), (.int (nar .char r49))] (nar .char r13) (nar .char r22) T210.heap n0 Z214 f212 (fun _ => ⟨⟨by decide, by decide⟩, rfl⟩) ⟨⟨by decide, by decide⟩, rfl⟩) hZ (hw _ (List.mem_of_getElem? (i := 47) rfl)) (hw _ (List.mem_of_getElem? (i := 3) rfl)) (by decide) (by decide)) (g := (mkF m 187 #[.val (.int p1), .val (.int p2), .val (.int p3), .val (.int p4), .val (.int p5), .val (.int p6), .val (.int (3 : Int32)), .val (.int sa), .val (.int cp), .val (.ref b8), .val (.ref b57), .unset] [(.int (3 : Int32)), (.int sa), (.int (1 : Int32)), (.ref b8), (.int (own_con (0 : Int32) sa (3 : Int32) 0 (nar .char r13)))])) rfl (by rw [hml]; rfl) (argsL := [(.ref b8), (.int (1 : Int32)), (.int sa), (.int (3 : Int32))]) (rest := [(.int (own_con (0 : Int32) sa (3 : Int32) 0 (nar .char r13)))]) (lenOf pd_8 rfl) rfl (by show 2 * 0 + _ ≤ _; exact Nat.le_of_eq rfl) (hb hby at_187) (fun _ _ => ⟨rfl, e222, (by decide : 6 + 0 ≤ _), (by decide : 45 + 0 ≤ _)⟩)
    dsimp only [Pt.U, Pt.locs, Pt.cells, Pt.slots] at X226 lq226 yq226 zq226 st226 hQ226
    subst lq226 yq226 zq226
    obtain ⟨rfl, Nq226, e226⟩ := hQ226
    have N227 := Fr.app N223 Nq226
    have K228 : ∀ t, Steps p.tables e below (T226.setTop (mkF m 190 #[.val (.int p1), .val (.int p2), .val (.int p3), .val (.int p4), .val (.int p5), .val (.int p6), .val (.int (3 : Int32)), .val (.int sa), .val (.int cp), .val (.ref b8), .val (.ref b57), .unset] [(.int (own_con (1 : Int32) sa (3 : Int32) (nar .char r13) (nar .char r22))), (.int (own_con (0 : Int32) sa (3 : Int32) 0 (nar .char r13)))])) t → Steps p.tables e below G t := fun t k => K225 t (st226 _ k)
    have K229 : ∀ t, Steps p.tables e below (T226.setTop (mkF m 198 #[.val (.int p1), .val (.int p2), .val (.int p3), .val (.int p4), .val (.int p5), .val (.int p6), .val (.int (3 : Int32)), .val (.int sa), .val (.int cp), .val (.ref b8), .val (.ref b57), .unset] [(.int (3 : Int32)), (.int sa), (.int (2 : Int32)), (.ref b8), (.int ((own_con (0 : Int32) sa (3 : Int32) 0 (nar .char r13)) + (own_con (1 : Int32) sa (3 : Int32) (nar .char r13) (nar .char r22))))])) t → Steps p.tables e below G t := by
      intro t k
      refine K228 t ?_
      show Steps p.tables e below (T226.setTop (mkF m 190 #[.val (.int p1), .val (.int p2), .val (.int p3), .val (.int p4), .val (.int p5), .val (.int p6), .val (.int (3 : Int32)), .val (.int sa), .val (.int cp), .val (.ref b8), .val (.ref b57), .unset] [(.int (own_con (1 : Int32) sa (3 : Int32) (nar .char r13) (nar .char r22))), (.int (own_con (0 : Int32) sa (3 : Int32) 0 (nar .char r13)))])) _
      refine XS.iadd X226.here hx rfl (hb hby at_190) rfl ?_
      show Steps p.tables e below (T226.setTop (mkF m 191 #[.val (.int p1), .val (.int p2), .val (.int p3), .val (.int p4), .val (.int p5), .val (.int p6), .val (.int (3 : Int32)), .val (.int sa), .val (.int cp), .val (.ref b8), .val (.ref b57), .unset] [(.int ((own_con (0 : Int32) sa (3 : Int32) 0 (nar .char r13)) + (own_con (1 : Int32) sa (3 : Int32) (nar .char r13) (nar .char r22))))])) _
      refine XS.aload X226.here hx rfl (hb hby at_191) rfl rfl ?_
      show Steps p.tables e below (T226.setTop (mkF m 193 #[.val (.int p1), .val (.int p2), .val (.int p3), .val (.int p4), .val (.int p5), .val (.int p6), .val (.int (3 : Int32)), .val (.int sa), .val (.int cp), .val (.ref b8), .val (.ref b57), .unset] [(.ref b8), (.int ((own_con (0 : Int32) sa (3 : Int32) 0 (nar .char r13)) + (own_con (1 : Int32) sa (3 : Int32) (nar .char r13) (nar .char r22))))])) _
      refine XS.iconst X226.here hx rfl (hb hby at_193) ?_
      show Steps p.tables e below (T226.setTop (mkF m 194 #[.val (.int p1), .val (.int p2), .val (.int p3), .val (.int p4), .val (.int p5), .val (.int p6), .val (.int (3 : Int32)), .val (.int sa), .val (.int cp), .val (.ref b8), .val (.ref b57), .unset] [(.int (2 : Int32)), (.ref b8), (.int ((own_con (0 : Int32) sa (3 : Int32) 0 (nar .char r13)) + (own_con (1 : Int32) sa (3 : Int32) (nar .char r13) (nar .char r22))))])) _
      refine XS.iload X226.here hx rfl (hb hby at_194) rfl ?_
      show Steps p.tables e below (T226.setTop (mkF m 196 #[.val (.int p1), .val (.int p2), .val (.int p3), .val (.int p4), .val (.int p5), .val (.int p6), .val (.int (3 : Int32)), .val (.int sa), .val (.int cp), .val (.ref b8), .val (.ref b57), .unset] [(.int sa), (.int (2 : Int32)), (.ref b8), (.int ((own_con (0 : Int32) sa (3 : Int32) 0 (nar .char r13)) + (own_con (1 : Int32) sa (3 : Int32) (nar .char r13) (nar .char r22))))])) _
      refine XS.iload X226.here hx rfl (hb hby at_196) rfl ?_
      show Steps p.tables e below (T226.setTop (mkF m 198 #[.val (.int p1), .val (.int p2), .val (.int p3), .val (.int p4), .val (.int p5), .val (.int p6), .val (.int (3 : Int32)), .val (.int sa), .val (.int cp), .val (.ref b8), .val (.ref b57), .unset] [(.int (3 : Int32)), (.int sa), (.int (2 : Int32)), (.ref b8), (.int ((own_con (0 : Int32) sa (3 : Int32) 0 (nar .char r13)) + (own_con (1 : Int32) sa (3 : Int32) (nar .char r13) (nar .char r22))))])) _
      exact k
    obtain ⟨_, _, ⟨T230, L230, kk230, nn230⟩, -, X230, ⟨Lc230, hQ230, lq230, yq230, zq230⟩, st230⟩ := Jvm.LawKit.callS X226 hx (y := (⟨"org/arborlog/pattern/LineTextCodePointCountPinLaw", "contrib", "([CIII)I"⟩ : MethodName)) hown (mvT hZ (hw _ (List.mem_of_getElem? (i := 45) rfl))) (mvT hZ (hw _ (List.mem_of_getElem? (i := 46) rfl))) (mvT hZ (hw _ (List.mem_of_getElem? (i := 3) rfl))) (mvT hZ (hw _ (List.mem_of_getElem? (i := 47) rfl))) (by decide) (backOf (W := 1) (rm9 l Z a0 hw [] b8 (2 : Int32) sa (3 : Int32) kn8 [(.int (nar .char r13)), (.int (nar .char r22)), (.int (nar .char r31)), (.int (nar .char r40)), (.int (nar .char r49))] (nar .char r22) (nar .char r31) T210.heap n0 Z214 f212 (fun _ => ⟨⟨by decide, by decide⟩, rfl⟩) ⟨⟨by decide, by decide⟩, rfl⟩) hZ (hw _ (List.mem_of_getElem? (i := 47) rfl)) (hw _ (List.mem_of_getElem? (i := 3) rfl)) (by decide) (by decide)) (g := (mkF m 198 #[.val (.int p1), .val (.int p2), .val (.int p3), .val (.int p4), .val (.int p5), .val (.int p6), .val (.int (3 : Int32)), .val (.int sa), .val (.int cp), .val (.ref b8), .val (.ref b57), .unset] [(.int (3 : Int32)), (.int sa), (.int (2 : Int32)), (.ref b8), (.int ((own_con (0 : Int32) sa (3 : Int32) 0 (nar .char r13)) + (own_con (1 : Int32) sa (3 : Int32) (nar .char r13) (nar .char r22))))])) rfl (by rw [hml]; rfl) (argsL := [(.ref b8), (.int (2 : Int32)), (.int sa), (.int (3 : Int32))]) (rest := [(.int ((own_con (0 : Int32) sa (3 : Int32) 0 (nar .char r13)) + (own_con (1 : Int32) sa (3 : Int32) (nar .char r13) (nar .char r22))))]) (lenOf pd_8 rfl) rfl (by show 2 * 0 + _ ≤ _; exact Nat.le_of_eq rfl) (hb hby at_198) (fun _ _ => ⟨rfl, e226, (by decide : 6 + 0 ≤ _), (by decide : 45 + 0 ≤ _)⟩)
    dsimp only [Pt.U, Pt.locs, Pt.cells, Pt.slots] at X230 lq230 yq230 zq230 st230 hQ230
    subst lq230 yq230 zq230
    obtain ⟨rfl, Nq230, e230⟩ := hQ230
    have N231 := Fr.app N227 Nq230
    have K232 : ∀ t, Steps p.tables e below (T230.setTop (mkF m 201 #[.val (.int p1), .val (.int p2), .val (.int p3), .val (.int p4), .val (.int p5), .val (.int p6), .val (.int (3 : Int32)), .val (.int sa), .val (.int cp), .val (.ref b8), .val (.ref b57), .unset] [(.int (own_con (2 : Int32) sa (3 : Int32) (nar .char r22) (nar .char r31))), (.int ((own_con (0 : Int32) sa (3 : Int32) 0 (nar .char r13)) + (own_con (1 : Int32) sa (3 : Int32) (nar .char r13) (nar .char r22))))])) t → Steps p.tables e below G t := fun t k => K229 t (st230 _ k)
    have K233 : ∀ t, Steps p.tables e below (T230.setTop (mkF m 209 #[.val (.int p1), .val (.int p2), .val (.int p3), .val (.int p4), .val (.int p5), .val (.int p6), .val (.int (3 : Int32)), .val (.int sa), .val (.int cp), .val (.ref b8), .val (.ref b57), .unset] [(.int (3 : Int32)), (.int sa), (.int (3 : Int32)), (.ref b8), (.int (((own_con (0 : Int32) sa (3 : Int32) 0 (nar .char r13)) + (own_con (1 : Int32) sa (3 : Int32) (nar .char r13) (nar .char r22))) + (own_con (2 : Int32) sa (3 : Int32) (nar .char r22) (nar .char r31))))])) t → Steps p.tables e below G t := by
      intro t k
      refine K232 t ?_
      show Steps p.tables e below (T230.setTop (mkF m 201 #[.val (.int p1), .val (.int p2), .val (.int p3), .val (.int p4), .val (.int p5), .val (.int p6), .val (.int (3 : Int32)), .val (.int sa), .val (.int cp), .val (.ref b8), .val (.ref b57), .unset] [(.int (own_con (2 : Int32) sa (3 : Int32) (nar .char r22) (nar .char r31))), (.int ((own_con (0 : Int32) sa (3 : Int32) 0 (nar .char r13)) + (own_con (1 : Int32) sa (3 : Int32) (nar .char r13) (nar .char r22))))])) _
      refine XS.iadd X230.here hx rfl (hb hby at_201) rfl ?_
      show Steps p.tables e below (T230.setTop (mkF m 202 #[.val (.int p1), .val (.int p2), .val (.int p3), .val (.int p4), .val (.int p5), .val (.int p6), .val (.int (3 : Int32)), .val (.int sa), .val (.int cp), .val (.ref b8), .val (.ref b57), .unset] [(.int (((own_con (0 : Int32) sa (3 : Int32) 0 (nar .char r13)) + (own_con (1 : Int32) sa (3 : Int32) (nar .char r13) (nar .char r22))) + (own_con (2 : Int32) sa (3 : Int32) (nar .char r22) (nar .char r31))))])) _
      refine XS.aload X230.here hx rfl (hb hby at_202) rfl rfl ?_
      show Steps p.tables e below (T230.setTop (mkF m 204 #[.val (.int p1), .val (.int p2), .val (.int p3), .val (.int p4), .val (.int p5), .val (.int p6), .val (.int (3 : Int32)), .val (.int sa), .val (.int cp), .val (.ref b8), .val (.ref b57), .unset] [(.ref b8), (.int (((own_con (0 : Int32) sa (3 : Int32) 0 (nar .char r13)) + (own_con (1 : Int32) sa (3 : Int32) (nar .char r13) (nar .char r22))) + (own_con (2 : Int32) sa (3 : Int32) (nar .char r22) (nar .char r31))))])) _
      refine XS.iconst X230.here hx rfl (hb hby at_204) ?_
      show Steps p.tables e below (T230.setTop (mkF m 205 #[.val (.int p1), .val (.int p2), .val (.int p3), .val (.int p4), .val (.int p5), .val (.int p6), .val (.int (3 : Int32)), .val (.int sa), .val (.int cp), .val (.ref b8), .val (.ref b57), .unset] [(.int (3 : Int32)), (.ref b8), (.int (((own_con (0 : Int32) sa (3 : Int32) 0 (nar .char r13)) + (own_con (1 : Int32) sa (3 : Int32) (nar .char r13) (nar .char r22))) + (own_con (2 : Int32) sa (3 : Int32) (nar .char r22) (nar .char r31))))])) _
      refine XS.iload X230.here hx rfl (hb hby at_205) rfl ?_
      show Steps p.tables e below (T230.setTop (mkF m 207 #[.val (.int p1), .val (.int p2), .val (.int p3), .val (.int p4), .val (.int p5), .val (.int p6), .val (.int (3 : Int32)), .val (.int sa), .val (.int cp), .val (.ref b8), .val (.ref b57), .unset] [(.int sa), (.int (3 : Int32)), (.ref b8), (.int (((own_con (0 : Int32) sa (3 : Int32) 0 (nar .char r13)) + (own_con (1 : Int32) sa (3 : Int32) (nar .char r13) (nar .char r22))) + (own_con (2 : Int32) sa (3 : Int32) (nar .char r22) (nar .char r31))))])) _
      refine XS.iload X230.here hx rfl (hb hby at_207) rfl ?_
      show Steps p.tables e below (T230.setTop (mkF m 209 #[.val (.int p1), .val (.int p2), .val (.int p3), .val (.int p4), .val (.int p5), .val (.int p6), .val (.int (3 : Int32)), .val (.int sa), .val (.int cp), .val (.ref b8), .val (.ref b57), .unset] [(.int (3 : Int32)), (.int sa), (.int (3 : Int32)), (.ref b8), (.int (((own_con (0 : Int32) sa (3 : Int32) 0 (nar .char r13)) + (own_con (1 : Int32) sa (3 : Int32) (nar .char r13) (nar .char r22))) + (own_con (2 : Int32) sa (3 : Int32) (nar .char r22) (nar .char r31))))])) _
      exact k
    obtain ⟨_, _, ⟨T234, L234, kk234, nn234⟩, -, X234, ⟨Lc234, hQ234, lq234, yq234, zq234⟩, st234⟩ := Jvm.LawKit.callS X230 hx (y := (⟨"org/arborlog/pattern/LineTextCodePointCountPinLaw", "contrib", "([CIII)I"⟩ : MethodName)) hown (mvT hZ (hw _ (List.mem_of_getElem? (i := 45) rfl))) (mvT hZ (hw _ (List.mem_of_getElem? (i := 46) rfl))) (mvT hZ (hw _ (List.mem_of_getElem? (i := 3) rfl))) (mvT hZ (hw _ (List.mem_of_getElem? (i := 47) rfl))) (by decide) (backOf (W := 1) (rm9 l Z a0 hw [] b8 (3 : Int32) sa (3 : Int32) kn8 [(.int (nar .char r13)), (.int (nar .char r22)), (.int (nar .char r31)), (.int (nar .char r40)), (.int (nar .char r49))] (nar .char r31) (nar .char r40) T210.heap n0 Z214 f212 (fun _ => ⟨⟨by decide, by decide⟩, rfl⟩) ⟨⟨by decide, by decide⟩, rfl⟩) hZ (hw _ (List.mem_of_getElem? (i := 47) rfl)) (hw _ (List.mem_of_getElem? (i := 3) rfl)) (by decide) (by decide)) (g := (mkF m 209 #[.val (.int p1), .val (.int p2), .val (.int p3), .val (.int p4), .val (.int p5), .val (.int p6), .val (.int (3 : Int32)), .val (.int sa), .val (.int cp), .val (.ref b8), .val (.ref b57), .unset] [(.int (3 : Int32)), (.int sa), (.int (3 : Int32)), (.ref b8), (.int (((own_con (0 : Int32) sa (3 : Int32) 0 (nar .char r13)) + (own_con (1 : Int32) sa (3 : Int32) (nar .char r13) (nar .char r22))) + (own_con (2 : Int32) sa (3 : Int32) (nar .char r22) (nar .char r31))))])) rfl (by rw [hml]; rfl) (argsL := [(.ref b8), (.int (3 : Int32)), (.int sa), (.int (3 : Int32))]) (rest := [(.int (((own_con (0 : Int32) sa (3 : Int32) 0 (nar .char r13)) + (own_con (1 : Int32) sa (3 : Int32) (nar .char r13) (nar .char r22))) + (own_con (2 : Int32) sa (3 : Int32) (nar .char r22) (nar .char r31))))]) (lenOf pd_8 rfl) rfl (by show 2 * 0 + _ ≤ _; exact Nat.le_of_eq rfl) (hb hby at_209) (fun _ _ => ⟨rfl, e230, (by decide : 6 + 0 ≤ _), (by decide : 45 + 0 ≤ _)⟩)
    dsimp only [Pt.U, Pt.locs, Pt.cells, Pt.slots] at X234 lq234 yq234 zq234 st234 hQ234
    subst lq234 yq234 zq234
    obtain ⟨rfl, Nq234, e234⟩ := hQ234
    have N235 := Fr.app N231 Nq234
    have K236 : ∀ t, Steps p.tables e below (T234.setTop (mkF m 212 #[.val (.int p1), .val (.int p2), .val (.int p3), .val (.int p4), .val (.int p5), .val (.int p6), .val (.int (3 : Int32)), .val (.int sa), .val (.int cp), .val (.ref b8), .val (.ref b57), .unset] [(.int (own_con (3 : Int32) sa (3 : Int32) (nar .char r31) (nar .char r40))), (.int (((own_con (0 : Int32) sa (3 : Int32) 0 (nar .char r13)) + (own_con (1 : Int32) sa (3 : Int32) (nar .char r13) (nar .char r22))) + (own_con (2 : Int32) sa (3 : Int32) (nar .char r22) (nar .char r31))))])) t → Steps p.tables e below G t := fun t k => K233 t (st234 _ k)
    have K237 : ∀ t, Steps p.tables e below (T234.setTop (mkF m 220 #[.val (.int p1), .val (.int p2), .val (.int p3), .val (.int p4), .val (.int p5), .val (.int p6), .val (.int (3 : Int32)), .val (.int sa), .val (.int cp), .val (.ref b8), .val (.ref b57), .unset] [(.int (3 : Int32)), (.int sa), (.int (4 : Int32)), (.ref b8), (.int ((((own_con (0 : Int32) sa (3 : Int32) 0 (nar .char r13)) + (own_con (1 : Int32) sa (3 : Int32) (nar .char r13) (nar .char r22))) + (own_con (2 : Int32) sa (3 : Int32) (nar .char r22) (nar .char r31))) + (own_con (3 : Int32) sa (3 : Int32) (nar .char r31) (nar .char r40))))])) t → Steps p.tables e below G t := by
      intro t k
      refine K236 t ?_
      show Steps p.tables e below (T234.setTop (mkF m 212 #[.val (.int p1), .val (.int p2), .val (.int p3), .val (.int p4), .val (.int p5), .val (.int p6), .val (.int (3 : Int32)), .val (.int sa), .val (.int cp), .val (.ref b8), .val (.ref b57), .unset] [(.int (own_con (3 : Int32) sa (3 : Int32) (nar .char r31) (nar .char r40))), (.int (((own_con (0 : Int32) sa (3 : Int32) 0 (nar .char r13)) + (own_con (1 : Int32) sa (3 : Int32) (nar .char r13) (nar .char r22))) + (own_con (2 : Int32) sa (3 : Int32) (nar .char r22) (nar .char r31))))])) _
      refine XS.iadd X234.here hx rfl (hb hby at_212) rfl ?_
      show Steps p.tables e below (T234.setTop (mkF m 213 #[.val (.int p1), .val (.int p2), .val (.int p3), .val (.int p4), .val (.int p5), .val (.int p6), .val (.int (3 : Int32)), .val (.int sa), .val (.int cp), .val (.ref b8), .val (.ref b57), .unset] [(.int ((((own_con (0 : Int32) sa (3 : Int32) 0 (nar .char r13)) + (own_con (1 : Int32) sa (3 : Int32) (nar .char r13) (nar .char r22))) + (own_con (2 : Int32) sa (3 : Int32) (nar .char r22) (nar .char r31))) + (own_con (3 : Int32) sa (3 : Int32) (nar .char r31) (nar .char r40))))])) _
      refine XS.aload X234.here hx rfl (hb hby at_213) rfl rfl ?_
      show Steps p.tables e below (T234.setTop (mkF m 215 #[.val (.int p1), .val (.int p2), .val (.int p3), .val (.int p4), .val (.int p5), .val (.int p6), .val (.int (3 : Int32)), .val (.int sa), .val (.int cp), .val (.ref b8), .val (.ref b57), .unset] [(.ref b8), (.int ((((own_con (0 : Int32) sa (3 : Int32) 0 (nar .char r13)) + (own_con (1 : Int32) sa (3 : Int32) (nar .char r13) (nar .char r22))) + (own_con (2 : Int32) sa (3 : Int32) (nar .char r22) (nar .char r31))) + (own_con (3 : Int32) sa (3 : Int32) (nar .char r31) (nar .char r40))))])) _
      refine XS.iconst X234.here hx rfl (hb hby at_215) ?_
      show Steps p.tables e below (T234.setTop (mkF m 216 #[.val (.int p1), .val (.int p2), .val (.int p3), .val (.int p4), .val (.int p5), .val (.int p6), .val (.int (3 : Int32)), .val (.int sa), .val (.int cp), .val (.ref b8), .val (.ref b57), .unset] [(.int (4 : Int32)), (.ref b8), (.int ((((own_con (0 : Int32) sa (3 : Int32) 0 (nar .char r13)) + (own_con (1 : Int32) sa (3 : Int32) (nar .char r13) (nar .char r22))) + (own_con (2 : Int32) sa (3 : Int32) (nar .char r22) (nar .char r31))) + (own_con (3 : Int32) sa (3 : Int32) (nar .char r31) (nar .char r40))))])) _
      refine XS.iload X234.here hx rfl (hb hby at_216) rfl ?_
      show Steps p.tables e below (T234.setTop (mkF m 218 #[.val (.int p1), .val (.int p2), .val (.int p3), .val (.int p4), .val (.int p5), .val (.int p6), .val (.int (3 : Int32)), .val (.int sa), .val (.int cp), .val (.ref b8), .val (.ref b57), .unset] [(.int sa), (.int (4 : Int32)), (.ref b8), (.int ((((own_con (0 : Int32) sa (3 : Int32) 0 (nar .char r13)) + (own_con (1 : Int32) sa (3 : Int32) (nar .char r13) (nar .char r22))) + (own_con (2 : Int32) sa (3 : Int32) (nar .char r22) (nar .char r31))) + (own_con (3 : Int32) sa (3 : Int32) (nar .char r31) (nar .char r40))))])) _
      refine XS.iload X234.here hx rfl (hb hby at_218) rfl ?_
      show Steps p.tables e below (T234.setTop (mkF m 220 #[.val (.int p1), .val (.int p2), .val (.int p3), .val (.int p4), .val (.int p5), .val (.int p6), .val (.int (3 : Int32)), .val (.int sa), .val (.int cp), .val (.ref b8), .val (.ref b57), .unset] [(.int (3 : Int32)), (.int sa), (.int (4 : Int32)), (.ref b8), (.int ((((own_con (0 : Int32) sa (3 : Int32) 0 (nar .char r13)) + (own_con (1 : Int32) sa (3 : Int32) (nar .char r13) (nar .char r22))) + (own_con (2 : Int32) sa (3 : Int32) (nar .char r22) (nar .char r31))) + (own_con (3 : Int32) sa (3 : Int32) (nar .char r31) (nar .char r40))))])) _
      exact k
    obtain ⟨_, _, ⟨T238, L238, kk238, nn238⟩, -, X238, ⟨Lc238, hQ238, lq238, yq238, zq238⟩, st238⟩ := Jvm.LawKit.callS X234 hx (y := (⟨"org/arborlog/pattern/LineTextCodePointCountPinLaw", "contrib", "([CIII)I"⟩ : MethodName)) hown (mvT hZ (hw _ (List.mem_of_getElem? (i := 45) rfl))) (mvT hZ (hw _ (List.mem_of_getElem? (i := 46) rfl))) (mvT hZ (hw _ (List.mem_of_getElem? (i := 3) rfl))) (mvT hZ (hw _ (List.mem_of_getElem? (i := 47) rfl))) (by decide) (backOf (W := 1) (rm9 l Z a0 hw [] b8 (4 : Int32) sa (3 : Int32) kn8 [(.int (nar .char r13)), (.int (nar .char r22)), (.int (nar .char r31)), (.int (nar .char r40)), (.int (nar .char r49))] (nar .char r40) (nar .char r49) T210.heap n0 Z214 f212 (fun _ => ⟨⟨by decide, by decide⟩, rfl⟩) ⟨⟨by decide, by decide⟩, rfl⟩) hZ (hw _ (List.mem_of_getElem? (i := 47) rfl)) (hw _ (List.mem_of_getElem? (i := 3) rfl)) (by decide) (by decide)) (g := (mkF m 220 #[.val (.int p1), .val (.int p2), .val (.int p3), .val (.int p4), .val (.int p5), .val (.int p6), .val (.int (3 : Int32)), .val (.int sa), .val (.int cp), .val (.ref b8), .val (.ref b57), .unset] [(.int (3 : Int32)), (.int sa), (.int (4 : Int32)), (.ref b8), (.int ((((own_con (0 : Int32) sa (3 : Int32) 0 (nar .char r13)) + (own_con (1 : Int32) sa (3 : Int32) (nar .char r13) (nar .char r22))) + (own_con (2 : Int32) sa (3 : Int32) (nar .char r22) (nar .char r31))) + (own_con (3 : Int32) sa (3 : Int32) (nar .char r31) (nar .char r40))))])) rfl (by rw [hml]; rfl) (argsL := [(.ref b8), (.int (4 : Int32)), (.int sa), (.int (3 : Int32))]) (rest := [(.int ((((own_con (0 : Int32) sa (3 : Int32) 0 (nar .char r13)) + (own_con (1 : Int32) sa (3 : Int32) (nar .char r13) (nar .char r22))) + (own_con (2 : Int32) sa (3 : Int32) (nar .char r22) (nar .char r31))) + (own_con (3 : Int32) sa (3 : Int32) (nar .char r31) (nar .char r40))))]) (lenOf pd_8 rfl) rfl (by show 2 * 0 + _ ≤ _; exact Nat.le_of_eq rfl) (hb hby at_220) (fun _ _ => ⟨rfl, e234, (by decide : 6 + 0 ≤ _), (by decide : 45 + 0 ≤ _)⟩)
    dsimp only [Pt.U, Pt.locs, Pt.cells, Pt.slots] at X238 lq238 yq238 zq238 st238 hQ238
    subst lq238 yq238 zq238
    obtain ⟨rfl, Nq238, e238⟩ := hQ238
    have N239 := Fr.app N235 Nq238
    have K240 : ∀ t, Steps p.tables e below (T238.setTop (mkF m 223 #[.val (.int p1), .val (.int p2), .val (.int p3), .val (.int p4), .val (.int p5), .val (.int p6), .val (.int (3 : Int32)), .val (.int sa), .val (.int cp), .val (.ref b8), .val (.ref b57), .unset] [(.int (own_con (4 : Int32) sa (3 : Int32) (nar .char r40) (nar .char r49))), (.int ((((own_con (0 : Int32) sa (3 : Int32) 0 (nar .char r13)) + (own_con (1 : Int32) sa (3 : Int32) (nar .char r13) (nar .char r22))) + (own_con (2 : Int32) sa (3 : Int32) (nar .char r22) (nar .char r31))) + (own_con (3 : Int32) sa (3 : Int32) (nar .char r31) (nar .char r40))))])) t → Steps p.tables e below G t := fun t k => K237 t (st238 _ k)
    have K241 : ∀ t, Steps p.tables e below (T238.setTop (mkF m 230 #[.val (.int p1), .val (.int p2), .val (.int p3), .val (.int p4), .val (.int p5), .val (.int p6), .val (.int (3 : Int32)), .val (.int sa), .val (.int cp), .val (.ref b8), .val (.ref b57), .val (.int (((((own_con (0 : Int32) sa (3 : Int32) 0 (nar .char r13)) + (own_con (1 : Int32) sa (3 : Int32) (nar .char r13) (nar .char r22))) + (own_con (2 : Int32) sa (3 : Int32) (nar .char r22) (nar .char r31))) + (own_con (3 : Int32) sa (3 : Int32) (nar .char r31) (nar .char r40))) + (own_con (4 : Int32) sa (3 : Int32) (nar .char r40) (nar .char r49))))] [(.int sa), (.ref b57)])) t → Steps p.tables e below G t := by
      intro t k
      refine K240 t ?_
      show Steps p.tables e below (T238.setTop (mkF m 223 #[.val (.int p1), .val (.int p2), .val (.int p3), .val (.int p4), .val (.int p5), .val (.int p6), .val (.int (3 : Int32)), .val (.int sa), .val (.int cp), .val (.ref b8), .val (.ref b57), .unset] [(.int (own_con (4 : Int32) sa (3 : Int32) (nar .char r40) (nar .char r49))), (.int ((((own_con (0 : Int32) sa (3 : Int32) 0 (nar .char r13)) + (own_con (1 : Int32) sa (3 : Int32) (nar .char r13) (nar .char r22))) + (own_con (2 : Int32) sa (3 : Int32) (nar .char r22) (nar .char r31))) + (own_con (3 : Int32) sa (3 : Int32) (nar .char r31) (nar .char r40))))])) _
      refine XS.iadd X238.here hx rfl (hb hby at_223) rfl ?_
      show Steps p.tables e below (T238.setTop (mkF m 224 #[.val (.int p1), .val (.int p2), .val (.int p3), .val (.int p4), .val (.int p5), .val (.int p6), .val (.int (3 : Int32)), .val (.int sa), .val (.int cp), .val (.ref b8), .val (.ref b57), .unset] [(.int (((((own_con (0 : Int32) sa (3 : Int32) 0 (nar .char r13)) + (own_con (1 : Int32) sa (3 : Int32) (nar .char r13) (nar .char r22))) + (own_con (2 : Int32) sa (3 : Int32) (nar .char r22) (nar .char r31))) + (own_con (3 : Int32) sa (3 : Int32) (nar .char r31) (nar .char r40))) + (own_con (4 : Int32) sa (3 : Int32) (nar .char r40) (nar .char r49))))])) _
      refine XS.istore X238.here hx rfl (hb hby at_224) rfl (l' := #[.val (.int p1), .val (.int p2), .val (.int p3), .val (.int p4), .val (.int p5), .val (.int p6), .val (.int (3 : Int32)), .val (.int sa), .val (.int cp), .val (.ref b8), .val (.ref b57), .val (.int (((((own_con (0 : Int32) sa (3 : Int32) 0 (nar .char r13)) + (own_con (1 : Int32) sa (3 : Int32) (nar .char r13) (nar .char r22))) + (own_con (2 : Int32) sa (3 : Int32) (nar .char r22) (nar .char r31))) + (own_con (3 : Int32) sa (3 : Int32) (nar .char r31) (nar .char r40))) + (own_con (4 : Int32) sa (3 : Int32) (nar .char r40) (nar .char r49))))]) rfl ?_
      show Steps p.tables e below (T238.setTop (mkF m 226 #[.val (.int p1), .val (.int p2), .val (.int p3), .val (.int p4), .val (.int p5), .val (.int p6), .val (.int (3 : Int32)), .val (.int sa), .val (.int cp), .val (.ref b8), .val (.ref b57), .val (.int (((((own_con (0 : Int32) sa (3 : Int32) 0 (nar .char r13)) + (own_con (1 : Int32) sa (3 : Int32) (nar .char r13) (nar .char r22))) + (own_con (2 : Int32) sa (3 : Int32) (nar .char r22) (nar .char r31))) + (own_con (3 : Int32) sa (3 : Int32) (nar .char r31) (nar .char r40))) + (own_con (4 : Int32) sa (3 : Int32) (nar .char r40) (nar .char r49))))] [])) _
      refine XS.aload X238.here hx rfl (hb hby at_226) rfl rfl ?_
      show Steps p.tables e below (T238.setTop (mkF m 228 #[.val (.int p1), .val (.int p2), .val (.int p3), .val (.int p4), .val (.int p5), .val (.int p6), .val (.int (3 : Int32)), .val (.int sa), .val (.int cp), .val (.ref b8), .val (.ref b57), .val (.int (((((own_con (0 : Int32) sa (3 : Int32) 0 (nar .char r13)) + (own_con (1 : Int32) sa (3 : Int32) (nar .char r13) (nar .char r22))) + (own_con (2 : Int32) sa (3 : Int32) (nar .char r22) (nar .char r31))) + (own_con (3 : Int32) sa (3 : Int32) (nar .char r31) (nar .char r40))) + (own_con (4 : Int32) sa (3 : Int32) (nar .char r40) (nar .char r49))))] [(.ref b57)])) _
      refine XS.iload X238.here hx rfl (hb hby at_228) rfl ?_
      show Steps p.tables e below (T238.setTop (mkF m 230 #[.val (.int p1), .val (.int p2), .val (.int p3), .val (.int p4), .val (.int p5), .val (.int p6), .val (.int (3 : Int32)), .val (.int sa), .val (.int cp), .val (.ref b8), .val (.ref b57), .val (.int (((((own_con (0 : Int32) sa (3 : Int32) 0 (nar .char r13)) + (own_con (1 : Int32) sa (3 : Int32) (nar .char r13) (nar .char r22))) + (own_con (2 : Int32) sa (3 : Int32) (nar .char r22) (nar .char r31))) + (own_con (3 : Int32) sa (3 : Int32) (nar .char r31) (nar .char r40))) + (own_con (4 : Int32) sa (3 : Int32) (nar .char r40) (nar .char r49))))] [(.int sa), (.ref b57)])) _
      exact k
    obtain ⟨hp, hse⟩ := own_hp (by decide) hsa hz210.1
    have hf : ∀ j : Nat, j < (sa + ((3 : Int32) - sa)).toNatClampNeg → vs210.getD j (Value.int (0 : Int32)) = .int ((fun j => ([(nar .char r13), (nar .char r22), (nar .char r31), (nar .char r40), (nar .char r49)] : List Int32).getD j 0) j) := fun j hj => by
      rw [hse] at hj
      have hj' : j < 3 := hj
      match j, hj' with
      | 0, _ => exact ct217.trans (congrArg Value.int (own_nar _))
      | 1, _ => exact ct218.trans (congrArg Value.int (own_nar _))
      | 2, _ => exact ct219.trans (congrArg Value.int (own_nar _))
      | j + 3, h => exact absurd h (by omega)
    obtain ⟨cq242, kq242, q242a, q242b, q242c⟩ := isOf hZ e238 E210'
    obtain ⟨_, _, ⟨T242, L242, kk242, nn242⟩, -, X242, ⟨Lc242, hQ242, lq242, yq242, zq242⟩, st242⟩ := X238.virtualBack hx (y := (⟨"org/arborlog/pattern/LineText", "codePointCount", "(I)I"⟩ : MethodName)) (z := (⟨"org/arborlog/pattern/LineText", "codePointCount", "(I)I"⟩ : MethodName)) hown (mvT hZ (hw _ (List.mem_of_getElem? (i := 51) rfl))) (mvT hZ (hw _ (List.mem_of_getElem? (i := 52) rfl))) (notFace_of_selects (args := #[]) (mvT hZ (hw _ (List.mem_of_getElem? (i := 54) rfl)))) (mvT hZ (hw _ (List.mem_of_getElem? (i := 54) rfl))) (mvT hZ (hw _ (List.mem_of_getElem? (i := 53) rfl))) (by decide) (backOf (W := 0) (rm11 l Z a0 hw [] b57 sa b210 (3 : Int32) kb210 zb210 vs210 (fun j => ([(nar .char r13), (nar .char r22), (nar .char r31), (nar .char r40), (nar .char r49)] : List Int32).getD j 0) T210.heap n0 Z214 Fc210 f216 Vb210 hp hf) hZ (hw _ (List.mem_of_getElem? (i := 55) rfl)) (hw _ (List.mem_of_getElem? (i := 10) rfl)) (by decide) (by decide)) q242a q242c (g := (mkF m 230 #[.val (.int p1), .val (.int p2), .val (.int p3), .val (.int p4), .val (.int p5), .val (.int p6), .val (.int (3 : Int32)), .val (.int sa), .val (.int cp), .val (.ref b8), .val (.ref b57), .val (.int (((((own_con (0 : Int32) sa (3 : Int32) 0 (nar .char r13)) + (own_con (1 : Int32) sa (3 : Int32) (nar .char r13) (nar .char r22))) + (own_con (2 : Int32) sa (3 : Int32) (nar .char r22) (nar .char r31))) + (own_con (3 : Int32) sa (3 : Int32) (nar .char r31) (nar .char r40))) + (own_con (4 : Int32) sa (3 : Int32) (nar .char r40) (nar .char r49))))] [(.int sa), (.ref b57)])) rfl (by rw [hml]; rfl) (Steps.refl _) (argsL := [(.int sa)]) (rest := []) (lenOf pd_9 rfl) rfl (by show 2 * 0 + _ ≤ _; exact Nat.le_of_eq rfl) (hb hby at_230) (fun _ _ => ⟨rfl, e238, (by decide : 6 + 0 ≤ _), (by decide : 45 + 0 ≤ _)⟩)
    dsimp only [Pt.U, Pt.locs, Pt.cells, Pt.slots] at X242 lq242 yq242 zq242 st242 hQ242
    subst lq242 yq242 zq242
    obtain ⟨rfl, Nq242, e242⟩ := hQ242
    have N243 := Fr.app N239 Nq242
    have K244 : ∀ t, Steps p.tables e below (T242.setTop (mkF m 233 #[.val (.int p1), .val (.int p2), .val (.int p3), .val (.int p4), .val (.int p5), .val (.int p6), .val (.int (3 : Int32)), .val (.int sa), .val (.int cp), .val (.ref b8), .val (.ref b57), .val (.int (((((own_con (0 : Int32) sa (3 : Int32) 0 (nar .char r13)) + (own_con (1 : Int32) sa (3 : Int32) (nar .char r13) (nar .char r22))) + (own_con (2 : Int32) sa (3 : Int32) (nar .char r22) (nar .char r31))) + (own_con (3 : Int32) sa (3 : Int32) (nar .char r31) (nar .char r40))) + (own_con (4 : Int32) sa (3 : Int32) (nar .char r40) (nar .char r49))))] [(.int (((3 : Int32) - sa) - own_pr (fun j => ([(nar .char r13), (nar .char r22), (nar .char r31), (nar .char r40), (nar .char r49)] : List Int32).getD j 0) ((3 : Int32) - sa).toNatClampNeg sa.toNatClampNeg))])) t → Steps p.tables e below G t := fun t k => K241 t (st242.trans k)
    have hfin : (((3 : Int32) - sa) - own_pr (fun j => ([(nar .char r13), (nar .char r22), (nar .char r31), (nar .char r40), (nar .char r49)] : List Int32).getD j 0) ((3 : Int32) - sa).toNatClampNeg sa.toNatClampNeg) = (((((own_con (0 : Int32) sa (3 : Int32) 0 (nar .char r13)) + (own_con (1 : Int32) sa (3 : Int32) (nar .char r13) (nar .char r22))) + (own_con (2 : Int32) sa (3 : Int32) (nar .char r22) (nar .char r31))) + (own_con (3 : Int32) sa (3 : Int32) (nar .char r31) (nar .char r40))) + (own_con (4 : Int32) sa (3 : Int32) (nar .char r40) (nar .char r49))) := by
      rcases own_n6 (n := sa) ⟨hsa.1, Int.le_trans hsa.2 (by decide)⟩ with q | q | q | q | q | q <;> rw [q] at hsa ⊢
      · exact own_fin_3_0 _ _ _ _ _ _ rfl rfl rfl rfl rfl
      · exact own_fin_3_1 _ _ _ _ _ _ rfl rfl rfl rfl rfl
      · exact own_fin_3_2 _ _ _ _ _ _ rfl rfl rfl rfl rfl
      · exact own_fin_3_3 _ _ _ _ _ _ rfl rfl rfl rfl rfl
      · exact absurd hsa.2 (by decide)
      · exact absurd hsa.2 (by decide)
    obtain ⟨fs, hr, hrun, hended, hW, hsame⟩ := X242.leave (v := some (.int (1 : Int32))) (fun h => by rw [Bd.returns] at h; cases h)
    have KF := K244
    rw [hG] at KF
    refine ⟨_, _, KF _ ?_, hrun, hended, _, _, rfl, ?_, ⟨_, rfl⟩, hW, hsame.mono (by decide) (by decide)⟩
    · show Steps p.tables e below (T242.setTop (mkF m 233 #[.val (.int p1), .val (.int p2), .val (.int p3), .val (.int p4), .val (.int p5), .val (.int p6), .val (.int (3 : Int32)), .val (.int sa), .val (.int cp), .val (.ref b8), .val (.ref b57), .val (.int (((((own_con (0 : Int32) sa (3 : Int32) 0 (nar .char r13)) + (own_con (1 : Int32) sa (3 : Int32) (nar .char r13) (nar .char r22))) + (own_con (2 : Int32) sa (3 : Int32) (nar .char r22) (nar .char r31))) + (own_con (3 : Int32) sa (3 : Int32) (nar .char r31) (nar .char r40))) + (own_con (4 : Int32) sa (3 : Int32) (nar .char r40) (nar .char r49))))] [(.int (((3 : Int32) - sa) - own_pr (fun j => ([(nar .char r13), (nar .char r22), (nar .char r31), (nar .char r40), (nar .char r49)] : List Int32).getD j 0) ((3 : Int32) - sa).toNatClampNeg sa.toNatClampNeg))])) _
      refine XS.iload X242.here hx rfl (hb hby at_233) rfl ?_
      show Steps p.tables e below (T242.setTop (mkF m 235 #[.val (.int p1), .val (.int p2), .val (.int p3), .val (.int p4), .val (.int p5), .val (.int p6), .val (.int (3 : Int32)), .val (.int sa), .val (.int cp), .val (.ref b8), .val (.ref b57), .val (.int (((((own_con (0 : Int32) sa (3 : Int32) 0 (nar .char r13)) + (own_con (1 : Int32) sa (3 : Int32) (nar .char r13) (nar .char r22))) + (own_con (2 : Int32) sa (3 : Int32) (nar .char r22) (nar .char r31))) + (own_con (3 : Int32) sa (3 : Int32) (nar .char r31) (nar .char r40))) + (own_con (4 : Int32) sa (3 : Int32) (nar .char r40) (nar .char r49))))] [(.int (((((own_con (0 : Int32) sa (3 : Int32) 0 (nar .char r13)) + (own_con (1 : Int32) sa (3 : Int32) (nar .char r13) (nar .char r22))) + (own_con (2 : Int32) sa (3 : Int32) (nar .char r22) (nar .char r31))) + (own_con (3 : Int32) sa (3 : Int32) (nar .char r31) (nar .char r40))) + (own_con (4 : Int32) sa (3 : Int32) (nar .char r40) (nar .char r49)))), (.int (((3 : Int32) - sa) - own_pr (fun j => ([(nar .char r13), (nar .char r22), (nar .char r31), (nar .char r40), (nar .char r49)] : List Int32).getD j 0) ((3 : Int32) - sa).toNatClampNeg sa.toNatClampNeg))])) _
      refine XS.icmpNo X242.here hx rfl (hb hby at_235) rfl (teq hfin).2 ?_
      show Steps p.tables e below (T242.setTop (mkF m 238 #[.val (.int p1), .val (.int p2), .val (.int p3), .val (.int p4), .val (.int p5), .val (.int p6), .val (.int (3 : Int32)), .val (.int sa), .val (.int cp), .val (.ref b8), .val (.ref b57), .val (.int (((((own_con (0 : Int32) sa (3 : Int32) 0 (nar .char r13)) + (own_con (1 : Int32) sa (3 : Int32) (nar .char r13) (nar .char r22))) + (own_con (2 : Int32) sa (3 : Int32) (nar .char r22) (nar .char r31))) + (own_con (3 : Int32) sa (3 : Int32) (nar .char r31) (nar .char r40))) + (own_con (4 : Int32) sa (3 : Int32) (nar .char r40) (nar .char r49))))] [])) _
      refine XS.iconst X242.here hx rfl (hb hby at_238) ?_
      show Steps p.tables e below (T242.setTop (mkF m 239 #[.val (.int p1), .val (.int p2), .val (.int p3), .val (.int p4), .val (.int p5), .val (.int p6), .val (.int (3 : Int32)), .val (.int sa), .val (.int cp), .val (.ref b8), .val (.ref b57), .val (.int (((((own_con (0 : Int32) sa (3 : Int32) 0 (nar .char r13)) + (own_con (1 : Int32) sa (3 : Int32) (nar .char r13) (nar .char r22))) + (own_con (2 : Int32) sa (3 : Int32) (nar .char r22) (nar .char r31))) + (own_con (3 : Int32) sa (3 : Int32) (nar .char r31) (nar .char r40))) + (own_con (4 : Int32) sa (3 : Int32) (nar .char r40) (nar .char r49))))] [(.int (1 : Int32))])) _
      refine XS.goto X242.here hx rfl (pc0 := 239) (pc' := 243) rfl (hb hby at_239) (by decide) (by decide) ?_
      show Steps p.tables e below (T242.setTop (mkF m 243 #[.val (.int p1), .val (.int p2), .val (.int p3), .val (.int p4), .val (.int p5), .val (.int p6), .val (.int (3 : Int32)), .val (.int sa), .val (.int cp), .val (.ref b8), .val (.ref b57), .val (.int (((((own_con (0 : Int32) sa (3 : Int32) 0 (nar .char r13)) + (own_con (1 : Int32) sa (3 : Int32) (nar .char r13) (nar .char r22))) + (own_con (2 : Int32) sa (3 : Int32) (nar .char r22) (nar .char r31))) + (own_con (3 : Int32) sa (3 : Int32) (nar .char r31) (nar .char r40))) + (own_con (4 : Int32) sa (3 : Int32) (nar .char r40) (nar .char r49))))] [(.int (1 : Int32))])) _
      exact retN X242 hx (t := .boolean) Bd.returns (by simp) (hb hby at_243) hr
    · show Q0 n0 _ T242.heap _
      rw [e242]
      exact ⟨rfl, N243⟩
  · have K245 : ∀ t, Steps p.tables e below (T65.setTop (mkF m 101 #[.val (.int p1), .val (.int p2), .val (.int p3), .val (.int p4), .val (.int p5), .val (.int p6), .val (.int (4 : Int32)), .val (.int sa), .val (.int cp), .val (.ref b8), .val (.ref b57), .unset] [(.int (0 : Int32)), (.ref b8), (.ref b57)])) t → Steps p.tables e below G t := by
      intro t k
      refine K72 t ?_
      show Steps p.tables e below (T65.setTop (mkF m 91 #[.val (.int p1), .val (.int p2), .val (.int p3), .val (.int p4), .val (.int p5), .val (.int p6), .val (.int (4 : Int32)), .val (.int sa), .val (.int cp), .val (.ref b8), .val (.ref b57), .unset] [])) _
      refine XS.iload X65.here hx rfl (hb hby at_91) rfl ?_
      show Steps p.tables e below (T65.setTop (mkF m 93 #[.val (.int p1), .val (.int p2), .val (.int p3), .val (.int p4), .val (.int p5), .val (.int p6), .val (.int (4 : Int32)), .val (.int sa), .val (.int cp), .val (.ref b8), .val (.ref b57), .unset] [(.int (4 : Int32))])) _
      refine XS.ifNo X65.here hx rfl (hb hby at_93) rfl ((if0 _ _).trans (tlt (by decide)).2.2.2) ?_
      show Steps p.tables e below (T65.setTop (mkF m 96 #[.val (.int p1), .val (.int p2), .val (.int p3), .val (.int p4), .val (.int p5), .val (.int p6), .val (.int (4 : Int32)), .val (.int sa), .val (.int cp), .val (.ref b8), .val (.ref b57), .unset] [])) _
      refine XS.aload X65.here hx rfl (hb hby at_96) rfl rfl ?_
      show Steps p.tables e below (T65.setTop (mkF m 98 #[.val (.int p1), .val (.int p2), .val (.int p3), .val (.int p4), .val (.int p5), .val (.int p6), .val (.int (4 : Int32)), .val (.int sa), .val (.int cp), .val (.ref b8), .val (.ref b57), .unset] [(.ref b57)])) _
      refine XS.aload X65.here hx rfl (hb hby at_98) rfl rfl ?_
      show Steps p.tables e below (T65.setTop (mkF m 100 #[.val (.int p1), .val (.int p2), .val (.int p3), .val (.int p4), .val (.int p5), .val (.int p6), .val (.int (4 : Int32)), .val (.int sa), .val (.int cp), .val (.ref b8), .val (.ref b57), .unset] [(.ref b8), (.ref b57)])) _
      refine XS.iconst X65.here hx rfl (hb hby at_100) ?_
      show Steps p.tables e below (T65.setTop (mkF m 101 #[.val (.int p1), .val (.int p2), .val (.int p3), .val (.int p4), .val (.int p5), .val (.int p6), .val (.int (4 : Int32)), .val (.int sa), .val (.int cp), .val (.ref b8), .val (.ref b57), .unset] [(.int (0 : Int32)), (.ref b8), (.ref b57)])) _
      exact k
    obtain ⟨cl246, Ar246, qc246, S246, M246, Ha246, Ga246⟩ := id f67
    have hin246 : ¬ ((0 : Int32) < 0 ∨ cl246.slots.size ≤ ((0 : Int32)).toNatClampNeg) := inb_of S246 ⟨by decide, by decide⟩
    have hat246 : cl246.slots[((0 : Int32)).toNatClampNeg]? = some (.int (nar .char r13)) := Ha246.at hin246 rfl
    have K247 : ∀ t, Steps p.tables e below (T65.setTop (mkF m 102 #[.val (.int p1), .val (.int p2), .val (.int p3), .val (.int p4), .val (.int p5), .val (.int p6), .val (.int (4 : Int32)), .val (.int sa), .val (.int cp), .val (.ref b8), .val (.ref b57), .unset] [(.int (nar .char r13)), (.ref b57)])) t → Steps p.tables e below G t := fun t k => K245 t (X65.caload hx (j := (0 : Int32)) (v := (.int (nar .char r13))) Ar246.1 (State.isArrayOf_alike hZ.alike Ar246.2.1) Ar246.2.2 hin246 hat246 (g := (mkF m 101 #[.val (.int p1), .val (.int p2), .val (.int p3), .val (.int p4), .val (.int p5), .val (.int p6), .val (.int (4 : Int32)), .val (.int sa), .val (.int cp), .val (.ref b8), .val (.ref b57), .unset] [(.int (0 : Int32)), (.ref b8), (.ref b57)])) rfl rfl (hb hby at_101) _ k)
    obtain ⟨cq248, kq248, q248a, q248b, q248c⟩ := isOf hZ rfl E65'
    obtain ⟨_, _, ⟨T248, L248, kk248, nn248⟩, -, X248, ⟨Lc248, hQ248, lq248, yq248, zq248⟩, st248⟩ := X65.virtualBack hx (y := (⟨"org/arborlog/pattern/LineText", "append", "(C)Lorg/arborlog/pattern/LineText;"⟩ : MethodName)) (z := (⟨"org/arborlog/pattern/LineText", "append", "(C)Lorg/arborlog/pattern/LineText;"⟩ : MethodName)) hown (mvT hZ (hw _ (List.mem_of_getElem? (i := 19) rfl))) (mvT hZ (hw _ (List.mem_of_getElem? (i := 20) rfl))) (notFace_of_selects (args := #[]) (mvT hZ (hw _ (List.mem_of_getElem? (i := 22) rfl)))) (mvT hZ (hw _ (List.mem_of_getElem? (i := 22) rfl))) (mvT hZ (hw _ (List.mem_of_getElem? (i := 21) rfl))) (by decide) (backOf (W := 0) (rm4 l Z a0 hw [] b57 (nar .char r13) b65 kb65 cp (0 : Int32) [] T65.heap n0 Z69 E65' Fc65 Fl65 Vb65 ne_b57_b65 g_b57 g_b65 ⟨by decide, by decide⟩ hc7.1 hc7.2.2) hZ (hw _ (List.mem_of_getElem? (i := 23) rfl)) (hw _ (List.mem_of_getElem? (i := 10) rfl)) (by decide) (by decide)) q248a q248c (g := (mkF m 102 #[.val (.int p1), .val (.int p2), .val (.int p3), .val (.int p4), .val (.int p5), .val (.int p6), .val (.int (4 : Int32)), .val (.int sa), .val (.int cp), .val (.ref b8), .val (.ref b57), .unset] [(.int (nar .char r13)), (.ref b57)])) rfl (by rw [hml]; rfl) (Steps.refl _) (argsL := [(.int (nar .char r13))]) (rest := []) (lenOf pd_10 rfl) rfl (by show 2 * 0 + _ ≤ _; exact Nat.le_of_eq rfl) (hb hby at_102) (fun _ _ => ⟨rfl, rfl, (by decide : 3 + 1 ≤ _), (by decide : 15 + 10 ≤ _)⟩)
    dsimp only [Pt.U, Pt.locs, Pt.cells, Pt.slots] at X248 lq248 yq248 zq248 st248 hQ248
    subst lq248 yq248 zq248
    obtain ⟨b248, kb248, zb248, vs248, rfl, Nq248, K248, ob248, E248', Fc248, Fl248, Vb248, hz248, hc248, hd248⟩ := hQ248
    have N249 := Fr.app N66 Nq248
    have gb248 : n0 ≤ b248 := ob248.elim (fun q => q ▸ g_b65) (fun q => Nat.le_trans Z69 q)
    have sz248 : h0.size ≤ b248 := ob248.elim (fun q => q ▸ sz_b65) (fun q => Nat.le_trans KP70.1 q)
    have ne_b8_b248 : b8 ≠ b248 := ob248.elim (fun q => q ▸ ne_b8_b65) (fun q => Nat.ne_of_lt (Nat.lt_of_lt_of_le f67.lt q))
    have ne_b57_b248 : b57 ≠ b248 := ob248.elim (fun q => q ▸ ne_b57_b65) (fun q => Nat.ne_of_lt (Nat.lt_of_lt_of_le E65'.lt q))
    have f250 := f67.keep K248 (ninS ne_b8_b57 (ninS ne_b8_b65 nin0))
    have f251 := E65'.keep K248
    have Z252 : n0 ≤ T248.heap.size := Nat.le_trans Z69 K248.1
    have KP253 : Keep h0 T248.heap [] := KP70.trans K248 (allS (Or.inr sz_b57) (allS (Or.inr sz_b65) all0))
    have f254 : Fld Z T248.heap b57 "org/arborlog/pattern/LineText" "length" "I" (.int (1 : Int32)) := Fl248
    have ct255 : vs248.getD 0 (Value.int (0 : Int32)) = .int (nar .char (nar .char r13)) := hd248
    have K256 : ∀ t, Steps p.tables e below (T248.setTop (mkF m 105 #[.val (.int p1), .val (.int p2), .val (.int p3), .val (.int p4), .val (.int p5), .val (.int p6), .val (.int (4 : Int32)), .val (.int sa), .val (.int cp), .val (.ref b8), .val (.ref b57), .unset] [(.ref b57)])) t → Steps p.tables e below G t := fun t k => K247 t (st248.trans k)
    have K257 : ∀ t, Steps p.tables e below (T248.setTop (mkF m 117 #[.val (.int p1), .val (.int p2), .val (.int p3), .val (.int p4), .val (.int p5), .val (.int p6), .val (.int (4 : Int32)), .val (.int sa), .val (.int cp), .val (.ref b8), .val (.ref b57), .unset] [(.int (1 : Int32)), (.ref b8), (.ref b57)])) t → Steps p.tables e below G t := by
      intro t k
      refine K256 t ?_
      show Steps p.tables e below (T248.setTop (mkF m 105 #[.val (.int p1), .val (.int p2), .val (.int p3), .val (.int p4), .val (.int p5), .val (.int p6), .val (.int (4 : Int32)), .val (.int sa), .val (.int cp), .val (.ref b8), .val (.ref b57), .unset] [(.ref b57)])) _
      refine XS.pop X248.here hx rfl (hb hby at_105) rfl rfl ?_
      show Steps p.tables e below (T248.setTop (mkF m 106 #[.val (.int p1), .val (.int p2), .val (.int p3), .val (.int p4), .val (.int p5), .val (.int p6), .val (.int (4 : Int32)), .val (.int sa), .val (.int cp), .val (.ref b8), .val (.ref b57), .unset] [])) _
      refine XS.iload X248.here hx rfl (hb hby at_106) rfl ?_
      show Steps p.tables e below (T248.setTop (mkF m 108 #[.val (.int p1), .val (.int p2), .val (.int p3), .val (.int p4), .val (.int p5), .val (.int p6), .val (.int (4 : Int32)), .val (.int sa), .val (.int cp), .val (.ref b8), .val (.ref b57), .unset] [(.int (4 : Int32))])) _
      refine XS.iconst X248.here hx rfl (hb hby at_108) ?_
      show Steps p.tables e below (T248.setTop (mkF m 109 #[.val (.int p1), .val (.int p2), .val (.int p3), .val (.int p4), .val (.int p5), .val (.int p6), .val (.int (4 : Int32)), .val (.int sa), .val (.int cp), .val (.ref b8), .val (.ref b57), .unset] [(.int (1 : Int32)), (.int (4 : Int32))])) _
      refine XS.icmpNo X248.here hx rfl (hb hby at_109) rfl (tlt (by decide)).2.2.2 ?_
      show Steps p.tables e below (T248.setTop (mkF m 112 #[.val (.int p1), .val (.int p2), .val (.int p3), .val (.int p4), .val (.int p5), .val (.int p6), .val (.int (4 : Int32)), .val (.int sa), .val (.int cp), .val (.ref b8), .val (.ref b57), .unset] [])) _
      refine XS.aload X248.here hx rfl (hb hby at_112) rfl rfl ?_
      show Steps p.tables e below (T248.setTop (mkF m 114 #[.val (.int p1), .val (.int p2), .val (.int p3), .val (.int p4), .val (.int p5), .val (.int p6), .val (.int (4 : Int32)), .val (.int sa), .val (.int cp), .val (.ref b8), .val (.ref b57), .unset] [(.ref b57)])) _
      refine XS.aload X248.here hx rfl (hb hby at_114) rfl rfl ?_
      show Steps p.tables e below (T248.setTop (mkF m 116 #[.val (.int p1), .val (.int p2), .val (.int p3), .val (.int p4), .val (.int p5), .val (.int p6), .val (.int (4 : Int32)), .val (.int sa), .val (.int cp), .val (.ref b8), .val (.ref b57), .unset] [(.ref b8), (.ref b57)])) _
      refine XS.iconst X248.here hx rfl (hb hby at_116) ?_
      show Steps p.tables e below (T248.setTop (mkF m 117 #[.val (.int p1), .val (.int p2), .val (.int p3), .val (.int p4), .val (.int p5), .val (.int p6), .val (.int (4 : Int32)), .val (.int sa), .val (.int cp), .val (.ref b8), .val (.ref b57), .unset] [(.int (1 : Int32)), (.ref b8), (.ref b57)])) _
      exact k
    obtain ⟨cl258, Ar258, qc258, S258, M258, Ha258, Ga258⟩ := id f250
    have hin258 : ¬ ((1 : Int32) < 0 ∨ cl258.slots.size ≤ ((1 : Int32)).toNatClampNeg) := inb_of S258 ⟨by decide, by decide⟩
    have hat258 : cl258.slots[((1 : Int32)).toNatClampNeg]? = some (.int (nar .char r22)) := Ha258.at hin258 rfl
    have K259 : ∀ t, Steps p.tables e below (T248.setTop (mkF m 118 #[.val (.int p1), .val (.int p2), .val (.int p3), .val (.int p4), .val (.int p5), .val (.int p6), .val (.int (4 : Int32)), .val (.int sa), .val (.int cp), .val (.ref b8), .val (.ref b57), .unset] [(.int (nar .char r22)), (.ref b57)])) t → Steps p.tables e below G t := fun t k => K257 t (X248.caload hx (j := (1 : Int32)) (v := (.int (nar .char r22))) Ar258.1 (State.isArrayOf_alike hZ.alike Ar258.2.1) Ar258.2.2 hin258 hat258 (g := (mkF m 117 #[.val (.int p1), .val (.int p2), .val (.int p3), .val (.int p4), .val (.int p5), .val (.int p6), .val (.int (4 : Int32)), .val (.int sa), .val (.int cp), .val (.ref b8), .val (.ref b57), .unset] [(.int (1 : Int32)), (.ref b8), (.ref b57)])) rfl rfl (hb hby at_117) _ k)
    obtain ⟨cq260, kq260, q260a, q260b, q260c⟩ := isOf hZ rfl E248'
    obtain ⟨_, _, ⟨T260, L260, kk260, nn260⟩, -, X260, ⟨Lc260, hQ260, lq260, yq260, zq260⟩, st260⟩ := X248.virtualBack hx (y := (⟨"org/arborlog/pattern/LineText", "append", "(C)Lorg/arborlog/pattern/LineText;"⟩ : MethodName)) (z := (⟨"org/arborlog/pattern/LineText", "append", "(C)Lorg/arborlog/pattern/LineText;"⟩ : MethodName)) hown (mvT hZ (hw _ (List.mem_of_getElem? (i := 19) rfl))) (mvT hZ (hw _ (List.mem_of_getElem? (i := 20) rfl))) (notFace_of_selects (args := #[]) (mvT hZ (hw _ (List.mem_of_getElem? (i := 22) rfl)))) (mvT hZ (hw _ (List.mem_of_getElem? (i := 22) rfl))) (mvT hZ (hw _ (List.mem_of_getElem? (i := 21) rfl))) (by decide) (backOf (W := 0) (rm4 l Z a0 hw [] b57 (nar .char r22) b248 kb248 zb248 (1 : Int32) vs248 T248.heap n0 Z252 E248' Fc248 f254 Vb248 ne_b57_b248 g_b57 gb248 ⟨by decide, by decide⟩ hz248.1 hz248.2) hZ (hw _ (List.mem_of_getElem? (i := 23) rfl)) (hw _ (List.mem_of_getElem? (i := 10) rfl)) (by decide) (by decide)) q260a q260c (g := (mkF m 118 #[.val (.int p1), .val (.int p2), .val (.int p3), .val (.int p4), .val (.int p5), .val (.int p6), .val (.int (4 : Int32)), .val (.int sa), .val (.int cp), .val (.ref b8), .val (.ref b57), .unset] [(.int (nar .char r22)), (.ref b57)])) rfl (by rw [hml]; rfl) (Steps.refl _) (argsL := [(.int (nar .char r22))]) (rest := []) (lenOf pd_10 rfl) rfl (by show 2 * 0 + _ ≤ _; exact Nat.le_of_eq rfl) (hb hby at_118) (fun _ _ => ⟨rfl, rfl, (by decide : 4 + 1 ≤ _), (by decide : 25 + 10 ≤ _)⟩)
    dsimp only [Pt.U, Pt.locs, Pt.cells, Pt.slots] at X260 lq260 yq260 zq260 st260 hQ260
    subst lq260 yq260 zq260
    obtain ⟨b260, kb260, zb260, vs260, rfl, Nq260, K260, ob260, E260', Fc260, Fl260, Vb260, hz260, hc260, hd260⟩ := hQ260
    have N261 := Fr.app N249 Nq260
    have gb260 : n0 ≤ b260 := ob260.elim (fun q => q ▸ gb248) (fun q => Nat.le_trans Z252 q)
    have sz260 : h0.size ≤ b260 := ob260.elim (fun q => q ▸ sz248) (fun q => Nat.le_trans KP253.1 q)
    have ne_b8_b260 : b8 ≠ b260 := ob260.elim (fun q => q ▸ ne_b8_b248) (fun q => Nat.ne_of_lt (Nat.lt_of_lt_of_le f250.lt q))
    have ne_b57_b260 : b57 ≠ b260 := ob260.elim (fun q => q ▸ ne_b57_b248) (fun q => Nat.ne_of_lt (Nat.lt_of_lt_of_le E248'.lt q))
    have f262 := f250.keep K260 (ninS ne_b8_b57 (ninS ne_b8_b248 nin0))
    have f263 := E248'.keep K260
    have Z264 : n0 ≤ T260.heap.size := Nat.le_trans Z252 K260.1
    have KP265 : Keep h0 T260.heap [] := KP253.trans K260 (allS (Or.inr sz_b57) (allS (Or.inr sz248) all0))
    have f266 : Fld Z T260.heap b57 "org/arborlog/pattern/LineText" "length" "I" (.int (2 : Int32)) := Fl260
    have ct267 : vs260.getD 0 (Value.int (0 : Int32)) = .int (nar .char (nar .char r13)) := (hc260 0 (by decide)).trans ct255
    have ct268 : vs260.getD 1 (Value.int (0 : Int32)) = .int (nar .char (nar .char r22)) := hd260
    have K269 : ∀ t, Steps p.tables e below (T260.setTop (mkF m 121 #[.val (.int p1), .val (.int p2), .val (.int p3), .val (.int p4), .val (.int p5), .val (.int p6), .val (.int (4 : Int32)), .val (.int sa), .val (.int cp), .val (.ref b8), .val (.ref b57), .unset] [(.ref b57)])) t → Steps p.tables e below G t := fun t k => K259 t (st260.trans k)
    have K270 : ∀ t, Steps p.tables e below (T260.setTop (mkF m 133 #[.val (.int p1), .val (.int p2), .val (.int p3), .val (.int p4), .val (.int p5), .val (.int p6), .val (.int (4 : Int32)), .val (.int sa), .val (.int cp), .val (.ref b8), .val (.ref b57), .unset] [(.int (2 : Int32)), (.ref b8), (.ref b57)])) t → Steps p.tables e below G t := by
      intro t k
      refine K269 t ?_
      show Steps p.tables e below (T260.setTop (mkF m 121 #[.val (.int p1), .val (.int p2), .val (.int p3), .val (.int p4), .val (.int p5), .val (.int p6), .val (.int (4 : Int32)), .val (.int sa), .val (.int cp), .val (.ref b8), .val (.ref b57), .unset] [(.ref b57)])) _
      refine XS.pop X260.here hx rfl (hb hby at_121) rfl rfl ?_
      show Steps p.tables e below (T260.setTop (mkF m 122 #[.val (.int p1), .val (.int p2), .val (.int p3), .val (.int p4), .val (.int p5), .val (.int p6), .val (.int (4 : Int32)), .val (.int sa), .val (.int cp), .val (.ref b8), .val (.ref b57), .unset] [])) _
      refine XS.iload X260.here hx rfl (hb hby at_122) rfl ?_
      show Steps p.tables e below (T260.setTop (mkF m 124 #[.val (.int p1), .val (.int p2), .val (.int p3), .val (.int p4), .val (.int p5), .val (.int p6), .val (.int (4 : Int32)), .val (.int sa), .val (.int cp), .val (.ref b8), .val (.ref b57), .unset] [(.int (4 : Int32))])) _
      refine XS.iconst X260.here hx rfl (hb hby at_124) ?_
      show Steps p.tables e below (T260.setTop (mkF m 125 #[.val (.int p1), .val (.int p2), .val (.int p3), .val (.int p4), .val (.int p5), .val (.int p6), .val (.int (4 : Int32)), .val (.int sa), .val (.int cp), .val (.ref b8), .val (.ref b57), .unset] [(.int (2 : Int32)), (.int (4 : Int32))])) _
      refine XS.icmpNo X260.here hx rfl (hb hby at_125) rfl (tlt (by decide)).2.2.2 ?_
      show Steps p.tables e below (T260.setTop (mkF m 128 #[.val (.int p1), .val (.int p2), .val (.int p3), .val (.int p4), .val (.int p5), .val (.int p6), .val (.int (4 : Int32)), .val (.int sa), .val (.int cp), .val (.ref b8), .val (.ref b57), .unset] [])) _
      refine XS.aload X260.here hx rfl (hb hby at_128) rfl rfl ?_
      show Steps p.tables e below (T260.setTop (mkF m 130 #[.val (.int p1), .val (.int p2), .val (.int p3), .val (.int p4), .val (.int p5), .val (.int p6), .val (.int (4 : Int32)), .val (.int sa), .val (.int cp), .val (.ref b8), .val (.ref b57), .unset] [(.ref b57)])) _
      refine XS.aload X260.here hx rfl (hb hby at_130) rfl rfl ?_
      show Steps p.tables e below (T260.setTop (mkF m 132 #[.val (.int p1), .val (.int p2), .val (.int p3), .val (.int p4), .val (.int p5), .val (.int p6), .val (.int (4 : Int32)), .val (.int sa), .val (.int cp), .val (.ref b8), .val (.ref b57), .unset] [(.ref b8), (.ref b57)])) _
      refine XS.iconst X260.here hx rfl (hb hby at_132) ?_
      show Steps p.tables e below (T260.setTop (mkF m 133 #[.val (.int p1), .val (.int p2), .val (.int p3), .val (.int p4), .val (.int p5), .val (.int p6), .val (.int (4 : Int32)), .val (.int sa), .val (.int cp), .val (.ref b8), .val (.ref b57), .unset] [(.int (2 : Int32)), (.ref b8), (.ref b57)])) _
      exact k
    obtain ⟨cl271, Ar271, qc271, S271, M271, Ha271, Ga271⟩ := id f262
    have hin271 : ¬ ((2 : Int32) < 0 ∨ cl271.slots.size ≤ ((2 : Int32)).toNatClampNeg) := inb_of S271 ⟨by decide, by decide⟩
    have hat271 : cl271.slots[((2 : Int32)).toNatClampNeg]? = some (.int (nar .char r31)) := Ha271.at hin271 rfl
    have K272 : ∀ t, Steps p.tables e below (T260.setTop (mkF m 134 #[.val (.int p1), .val (.int p2), .val (.int p3), .val (.int p4), .val (.int p5), .val (.int p6), .val (.int (4 : Int32)), .val (.int sa), .val (.int cp), .val (.ref b8), .val (.ref b57), .unset] [(.int (nar .char r31)), (.ref b57)])) t → Steps p.tables e below G t := fun t k => K270 t (X260.caload hx (j := (2 : Int32)) (v := (.int (nar .char r31))) Ar271.1 (State.isArrayOf_alike hZ.alike Ar271.2.1) Ar271.2.2 hin271 hat271 (g := (mkF m 133 #[.val (.int p1), .val (.int p2), .val (.int p3), .val (.int p4), .val (.int p5), .val (.int p6), .val (.int (4 : Int32)), .val (.int sa), .val (.int cp), .val (.ref b8), .val (.ref b57), .unset] [(.int (2 : Int32)), (.ref b8), (.ref b57)])) rfl rfl (hb hby at_133) _ k)
    obtain ⟨cq273, kq273, q273a, q273b, q273c⟩ := isOf hZ rfl E260'
    obtain ⟨_, _, ⟨T273, L273, kk273, nn273⟩, -, X273, ⟨Lc273, hQ273, lq273, yq273, zq273⟩, st273⟩ := X260.virtualBack hx (y := (⟨"org/arborlog/pattern/LineText", "append", "(C)Lorg/arborlog/pattern/LineText;"⟩ : MethodName)) (z := (⟨"org/arborlog/pattern/LineText", "append", "(C)Lorg/arborlog/pattern/LineText;"⟩ : MethodName)) hown (mvT hZ (hw _ (List.mem_of_getElem? (i := 19) rfl))) (mvT hZ (hw _ (List.mem_of_getElem? (i := 20) rfl))) (notFace_of_selects (args := #[]) (mvT hZ (hw _ (List.mem_of_getElem? (i := 22) rfl)))) (mvT hZ (hw _ (List.mem_of_getElem? (i := 22) rfl))) (mvT hZ (hw _ (List.mem_of_getElem? (i := 21) rfl))) (by decide) (backOf (W := 0) (rm4 l Z a0 hw [] b57 (nar .char r31) b260 kb260 zb260 (2 : Int32) vs260 T260.heap n0 Z264 E260' Fc260 f266 Vb260 ne_b57_b260 g_b57 gb260 ⟨by decide, by decide⟩ hz260.1 hz260.2) hZ (hw _ (List.mem_of_getElem? (i := 23) rfl)) (hw _ (List.mem_of_getElem? (i := 10) rfl)) (by decide) (by decide)) q273a q273c (g := (mkF m 134 #[.val (.int p1), .val (.int p2), .val (.int p3), .val (.int p4), .val (.int p5), .val (.int p6), .val (.int (4 : Int32)), .val (.int sa), .val (.int cp), .val (.ref b8), .val (.ref b57), .unset] [(.int (nar .char r31)), (.ref b57)])) rfl (by rw [hml]; rfl) (Steps.refl _) (argsL := [(.int (nar .char r31))]) (rest := []) (lenOf pd_10 rfl) rfl (by show 2 * 0 + _ ≤ _; exact Nat.le_of_eq rfl) (hb hby at_134) (fun _ _ => ⟨rfl, rfl, (by decide : 5 + 1 ≤ _), (by decide : 35 + 10 ≤ _)⟩)
    dsimp only [Pt.U, Pt.locs, Pt.cells, Pt.slots] at X273 lq273 yq273 zq273 st273 hQ273
    subst lq273 yq273 zq273
    obtain ⟨b273, kb273, zb273, vs273, rfl, Nq273, K273, ob273, E273', Fc273, Fl273, Vb273, hz273, hc273, hd273⟩ := hQ273
    have N274 := Fr.app N261 Nq273
    have gb273 : n0 ≤ b273 := ob273.elim (fun q => q ▸ gb260) (fun q => Nat.le_trans Z264 q)
    have sz273 : h0.size ≤ b273 := ob273.elim (fun q => q ▸ sz260) (fun q => Nat.le_trans KP265.1 q)
    have ne_b8_b273 : b8 ≠ b273 := ob273.elim (fun q => q ▸ ne_b8_b260) (fun q => Nat.ne_of_lt (Nat.lt_of_lt_of_le f262.lt q))
    have ne_b57_b273 : b57 ≠ b273 := ob273.elim (fun q => q ▸ ne_b57_b260) (fun q => Nat.ne_of_lt (Nat.lt_of_lt_of_le E260'.lt q))
    have f275 := f262.keep K273 (ninS ne_b8_b57 (ninS ne_b8_b260 nin0))
    have f276 := E260'.keep K273
    have Z277 : n0 ≤ T273.heap.size := Nat.le_trans Z264 K273.1
    have KP278 : Keep h0 T273.heap [] := KP265.trans K273 (allS (Or.inr sz_b57) (allS (Or.inr sz260) all0))
    have f279 : Fld Z T273.heap b57 "org/arborlog/pattern/LineText" "length" "I" (.int (3 : Int32)) := Fl273
    have ct280 : vs273.getD 0 (Value.int (0 : Int32)) = .int (nar .char (nar .char r13)) := (hc273 0 (by decide)).trans ct267
    have ct281 : vs273.getD 1 (Value.int (0 : Int32)) = .int (nar .char (nar .char r22)) := (hc273 1 (by decide)).trans ct268
    have ct282 : vs273.getD 2 (Value.int (0 : Int32)) = .int (nar .char (nar .char r31)) := hd273
    have K283 : ∀ t, Steps p.tables e below (T273.setTop (mkF m 137 #[.val (.int p1), .val (.int p2), .val (.int p3), .val (.int p4), .val (.int p5), .val (.int p6), .val (.int (4 : Int32)), .val (.int sa), .val (.int cp), .val (.ref b8), .val (.ref b57), .unset] [(.ref b57)])) t → Steps p.tables e below G t := fun t k => K272 t (st273.trans k)
    have K284 : ∀ t, Steps p.tables e below (T273.setTop (mkF m 149 #[.val (.int p1), .val (.int p2), .val (.int p3), .val (.int p4), .val (.int p5), .val (.int p6), .val (.int (4 : Int32)), .val (.int sa), .val (.int cp), .val (.ref b8), .val (.ref b57), .unset] [(.int (3 : Int32)), (.ref b8), (.ref b57)])) t → Steps p.tables e below G t := by
      intro t k
      refine K283 t ?_
      show Steps p.tables e below (T273.setTop (mkF m 137 #[.val (.int p1), .val (.int p2), .val (.int p3), .val (.int p4), .val (.int p5), .val (.int p6), .val (.int (4 : Int32)), .val (.int sa), .val (.int cp), .val (.ref b8), .val (.ref b57), .unset] [(.ref b57)])) _
      refine XS.pop X273.here hx rfl (hb hby at_137) rfl rfl ?_
      show Steps p.tables e below (T273.setTop (mkF m 138 #[.val (.int p1), .val (.int p2), .val (.int p3), .val (.int p4), .val (.int p5), .val (.int p6), .val (.int (4 : Int32)), .val (.int sa), .val (.int cp), .val (.ref b8), .val (.ref b57), .unset] [])) _
      refine XS.iload X273.here hx rfl (hb hby at_138) rfl ?_
      show Steps p.tables e below (T273.setTop (mkF m 140 #[.val (.int p1), .val (.int p2), .val (.int p3), .val (.int p4), .val (.int p5), .val (.int p6), .val (.int (4 : Int32)), .val (.int sa), .val (.int cp), .val (.ref b8), .val (.ref b57), .unset] [(.int (4 : Int32))])) _
      refine XS.iconst X273.here hx rfl (hb hby at_140) ?_
      show Steps p.tables e below (T273.setTop (mkF m 141 #[.val (.int p1), .val (.int p2), .val (.int p3), .val (.int p4), .val (.int p5), .val (.int p6), .val (.int (4 : Int32)), .val (.int sa), .val (.int cp), .val (.ref b8), .val (.ref b57), .unset] [(.int (3 : Int32)), (.int (4 : Int32))])) _
      refine XS.icmpNo X273.here hx rfl (hb hby at_141) rfl (tlt (by decide)).2.2.2 ?_
      show Steps p.tables e below (T273.setTop (mkF m 144 #[.val (.int p1), .val (.int p2), .val (.int p3), .val (.int p4), .val (.int p5), .val (.int p6), .val (.int (4 : Int32)), .val (.int sa), .val (.int cp), .val (.ref b8), .val (.ref b57), .unset] [])) _
      refine XS.aload X273.here hx rfl (hb hby at_144) rfl rfl ?_
      show Steps p.tables e below (T273.setTop (mkF m 146 #[.val (.int p1), .val (.int p2), .val (.int p3), .val (.int p4), .val (.int p5), .val (.int p6), .val (.int (4 : Int32)), .val (.int sa), .val (.int cp), .val (.ref b8), .val (.ref b57), .unset] [(.ref b57)])) _
      refine XS.aload X273.here hx rfl (hb hby at_146) rfl rfl ?_
      show Steps p.tables e below (T273.setTop (mkF m 148 #[.val (.int p1), .val (.int p2), .val (.int p3), .val (.int p4), .val (.int p5), .val (.int p6), .val (.int (4 : Int32)), .val (.int sa), .val (.int cp), .val (.ref b8), .val (.ref b57), .unset] [(.ref b8), (.ref b57)])) _
      refine XS.iconst X273.here hx rfl (hb hby at_148) ?_
      show Steps p.tables e below (T273.setTop (mkF m 149 #[.val (.int p1), .val (.int p2), .val (.int p3), .val (.int p4), .val (.int p5), .val (.int p6), .val (.int (4 : Int32)), .val (.int sa), .val (.int cp), .val (.ref b8), .val (.ref b57), .unset] [(.int (3 : Int32)), (.ref b8), (.ref b57)])) _
      exact k
    obtain ⟨cl285, Ar285, qc285, S285, M285, Ha285, Ga285⟩ := id f275
    have hin285 : ¬ ((3 : Int32) < 0 ∨ cl285.slots.size ≤ ((3 : Int32)).toNatClampNeg) := inb_of S285 ⟨by decide, by decide⟩
    have hat285 : cl285.slots[((3 : Int32)).toNatClampNeg]? = some (.int (nar .char r40)) := Ha285.at hin285 rfl
    have K286 : ∀ t, Steps p.tables e below (T273.setTop (mkF m 150 #[.val (.int p1), .val (.int p2), .val (.int p3), .val (.int p4), .val (.int p5), .val (.int p6), .val (.int (4 : Int32)), .val (.int sa), .val (.int cp), .val (.ref b8), .val (.ref b57), .unset] [(.int (nar .char r40)), (.ref b57)])) t → Steps p.tables e below G t := fun t k => K284 t (X273.caload hx (j := (3 : Int32)) (v := (.int (nar .char r40))) Ar285.1 (State.isArrayOf_alike hZ.alike Ar285.2.1) Ar285.2.2 hin285 hat285 (g := (mkF m 149 #[.val (.int p1), .val (.int p2), .val (.int p3), .val (.int p4), .val (.int p5), .val (.int p6), .val (.int (4 : Int32)), .val (.int sa), .val (.int cp), .val (.ref b8), .val (.ref b57), .unset] [(.int (3 : Int32)), (.ref b8), (.ref b57)])) rfl rfl (hb hby at_149) _ k)
    obtain ⟨cq287, kq287, q287a, q287b, q287c⟩ := isOf hZ rfl E273'
    obtain ⟨_, _, ⟨T287, L287, kk287, nn287⟩, -, X287, ⟨Lc287, hQ287, lq287, yq287, zq287⟩, st287⟩ := X273.virtualBack hx (y := (⟨"org/arborlog/pattern/LineText", "append", "(C)Lorg/arborlog/pattern/LineText;"⟩ : MethodName)) (z := (⟨"org/arborlog/pattern/LineText", "append", "(C)Lorg/arborlog/pattern/LineText;"⟩ : MethodName)) hown (mvT hZ (hw _ (List.mem_of_getElem? (i := 19) rfl))) (mvT hZ (hw _ (List.mem_of_getElem? (i := 20) rfl))) (notFace_of_selects (args := #[]) (mvT hZ (hw _ (List.mem_of_getElem? (i := 22) rfl)))) (mvT hZ (hw _ (List.mem_of_getElem? (i := 22) rfl))) (mvT hZ (hw _ (List.mem_of_getElem? (i := 21) rfl))) (by decide) (backOf (W := 0) (rm4 l Z a0 hw [] b57 (nar .char r40) b273 kb273 zb273 (3 : Int32) vs273 T273.heap n0 Z277 E273' Fc273 f279 Vb273 ne_b57_b273 g_b57 gb273 ⟨by decide, by decide⟩ hz273.1 hz273.2) hZ (hw _ (List.mem_of_getElem? (i := 23) rfl)) (hw _ (List.mem_of_getElem? (i := 10) rfl)) (by decide) (by decide)) q287a q287c (g := (mkF m 150 #[.val (.int p1), .val (.int p2), .val (.int p3), .val (.int p4), .val (.int p5), .val (.int p6), .val (.int (4 : Int32)), .val (.int sa), .val (.int cp), .val (.ref b8), .val (.ref b57), .unset] [(.int (nar .char r40)), (.ref b57)])) rfl (by rw [hml]; rfl) (Steps.refl _) (argsL := [(.int (nar .char r40))]) (rest := []) (lenOf pd_10 rfl) rfl (by show 2 * 0 + _ ≤ _; exact Nat.le_of_eq rfl) (hb hby at_150) (fun _ _ => ⟨rfl, rfl, (by decide : 6 + 1 ≤ _), (by decide : 45 + 10 ≤ _)⟩)
    dsimp only [Pt.U, Pt.locs, Pt.cells, Pt.slots] at X287 lq287 yq287 zq287 st287 hQ287
    subst lq287 yq287 zq287
    obtain ⟨b287, kb287, zb287, vs287, rfl, Nq287, K287, ob287, E287', Fc287, Fl287, Vb287, hz287, hc287, hd287⟩ := hQ287
    have N288 := Fr.app N274 Nq287
    have gb287 : n0 ≤ b287 := ob287.elim (fun q => q ▸ gb273) (fun q => Nat.le_trans Z277 q)
    have sz287 : h0.size ≤ b287 := ob287.elim (fun q => q ▸ sz273) (fun q => Nat.le_trans KP278.1 q)
    have ne_b8_b287 : b8 ≠ b287 := ob287.elim (fun q => q ▸ ne_b8_b273) (fun q => Nat.ne_of_lt (Nat.lt_of_lt_of_le f275.lt q))
    have ne_b57_b287 : b57 ≠ b287 := ob287.elim (fun q => q ▸ ne_b57_b273) (fun q => Nat.ne_of_lt (Nat.lt_of_lt_of_le E273'.lt q))
    have f289 := f275.keep K287 (ninS ne_b8_b57 (ninS ne_b8_b273 nin0))
    have f290 := E273'.keep K287
    have Z291 : n0 ≤ T287.heap.size := Nat.le_trans Z277 K287.1
    have KP292 : Keep h0 T287.heap [] := KP278.trans K287 (allS (Or.inr sz_b57) (allS (Or.inr sz273) all0))
    have f293 : Fld Z T287.heap b57 "org/arborlog/pattern/LineText" "length" "I" (.int (4 : Int32)) := Fl287
    have ct294 : vs287.getD 0 (Value.int (0 : Int32)) = .int (nar .char (nar .char r13)) := (hc287 0 (by decide)).trans ct280
    have ct295 : vs287.getD 1 (Value.int (0 : Int32)) = .int (nar .char (nar .char r22)) := (hc287 1 (by decide)).trans ct281
    have ct296 : vs287.getD 2 (Value.int (0 : Int32)) = .int (nar .char (nar .char r31)) := (hc287 2 (by decide)).trans ct282
    have ct297 : vs287.getD 3 (Value.int (0 : Int32)) = .int (nar .char (nar .char r40)) := hd287
    have K298 : ∀ t, Steps p.tables e below (T287.setTop (mkF m 153 #[.val (.int p1), .val (.int p2), .val (.int p3), .val (.int p4), .val (.int p5), .val (.int p6), .val (.int (4 : Int32)), .val (.int sa), .val (.int cp), .val (.ref b8), .val (.ref b57), .unset] [(.ref b57)])) t → Steps p.tables e below G t := fun t k => K286 t (st287.trans k)
    have K299 : ∀ t, Steps p.tables e below (T287.setTop (mkF m 177 #[.val (.int p1), .val (.int p2), .val (.int p3), .val (.int p4), .val (.int p5), .val (.int p6), .val (.int (4 : Int32)), .val (.int sa), .val (.int cp), .val (.ref b8), .val (.ref b57), .unset] [(.int (4 : Int32)), (.int sa), (.int (0 : Int32)), (.ref b8)])) t → Steps p.tables e below G t := by
      intro t k
      refine K298 t ?_
      show Steps p.tables e below (T287.setTop (mkF m 153 #[.val (.int p1), .val (.int p2), .val (.int p3), .val (.int p4), .val (.int p5), .val (.int p6), .val (.int (4 : Int32)), .val (.int sa), .val (.int cp), .val (.ref b8), .val (.ref b57), .unset] [(.ref b57)])) _
      refine XS.pop X287.here hx rfl (hb hby at_153) rfl rfl ?_
      show Steps p.tables e below (T287.setTop (mkF m 154 #[.val (.int p1), .val (.int p2), .val (.int p3), .val (.int p4), .val (.int p5), .val (.int p6), .val (.int (4 : Int32)), .val (.int sa), .val (.int cp), .val (.ref b8), .val (.ref b57), .unset] [])) _
      refine XS.iload X287.here hx rfl (hb hby at_154) rfl ?_
      show Steps p.tables e below (T287.setTop (mkF m 156 #[.val (.int p1), .val (.int p2), .val (.int p3), .val (.int p4), .val (.int p5), .val (.int p6), .val (.int (4 : Int32)), .val (.int sa), .val (.int cp), .val (.ref b8), .val (.ref b57), .unset] [(.int (4 : Int32))])) _
      refine XS.iconst X287.here hx rfl (hb hby at_156) ?_
      show Steps p.tables e below (T287.setTop (mkF m 157 #[.val (.int p1), .val (.int p2), .val (.int p3), .val (.int p4), .val (.int p5), .val (.int p6), .val (.int (4 : Int32)), .val (.int sa), .val (.int cp), .val (.ref b8), .val (.ref b57), .unset] [(.int (4 : Int32)), (.int (4 : Int32))])) _
      refine XS.icmpYes X287.here hx rfl (pc0 := 157) (pc' := 170) rfl (hb hby at_157) rfl (flt (by decide)).2.2.2 (by decide) (by decide) ?_
      show Steps p.tables e below (T287.setTop (mkF m 170 #[.val (.int p1), .val (.int p2), .val (.int p3), .val (.int p4), .val (.int p5), .val (.int p6), .val (.int (4 : Int32)), .val (.int sa), .val (.int cp), .val (.ref b8), .val (.ref b57), .unset] [])) _
      refine XS.aload X287.here hx rfl (hb hby at_170) rfl rfl ?_
      show Steps p.tables e below (T287.setTop (mkF m 172 #[.val (.int p1), .val (.int p2), .val (.int p3), .val (.int p4), .val (.int p5), .val (.int p6), .val (.int (4 : Int32)), .val (.int sa), .val (.int cp), .val (.ref b8), .val (.ref b57), .unset] [(.ref b8)])) _
      refine XS.iconst X287.here hx rfl (hb hby at_172) ?_
      show Steps p.tables e below (T287.setTop (mkF m 173 #[.val (.int p1), .val (.int p2), .val (.int p3), .val (.int p4), .val (.int p5), .val (.int p6), .val (.int (4 : Int32)), .val (.int sa), .val (.int cp), .val (.ref b8), .val (.ref b57), .unset] [(.int (0 : Int32)), (.ref b8)])) _
      refine XS.iload X287.here hx rfl (hb hby at_173) rfl ?_
      show Steps p.tables e below (T287.setTop (mkF m 175 #[.val (.int p1), .val (.int p2), .val (.int p3), .val (.int p4), .val (.int p5), .val (.int p6), .val (.int (4 : Int32)), .val (.int sa), .val (.int cp), .val (.ref b8), .val (.ref b57), .unset] [(.int sa), (.int (0 : Int32)), (.ref b8)])) _
      refine XS.iload X287.here hx rfl (hb hby at_175) rfl ?_
      show Steps p.tables e below (T287.setTop (mkF m 177 #[.val (.int p1), .val (.int p2), .val (.int p3), .val (.int p4), .val (.int p5), .val (.int p6), .val (.int (4 : Int32)), .val (.int sa), .val (.int cp), .val (.ref b8), .val (.ref b57), .unset] [(.int (4 : Int32)), (.int sa), (.int (0 : Int32)), (.ref b8)])) _
      exact k
    obtain ⟨_, _, ⟨T300, L300, kk300, nn300⟩, -, X300, ⟨Lc300, hQ300, lq300, yq300, zq300⟩, st300⟩ := Jvm.LawKit.callS X287 hx (y := (⟨"org/arborlog/pattern/LineTextCodePointCountPinLaw", "contrib", "([CIII)I"⟩ : MethodName)) hown (mvT hZ (hw _ (List.mem_of_getElem? (i := 45) rfl))) (mvT hZ (hw _ (List.mem_of_getElem? (i := 46) rfl))) (mvT hZ (hw _ (List.mem_of_getElem? (i := 3) rfl))) (mvT hZ (hw _ (List.mem_of_getElem? (i := 47) rfl))) (by decide) (backOf (W := 0) (rm9 l Z a0 hw [] b8 (0 : Int32) sa (4 : Int32) kn8 [(.int (nar .char r13)), (.int (nar .char r22)), (.int (nar .char r31)), (.int (nar .char r40)), (.int (nar .char r49))] 0 (nar .char r13) T287.heap n0 Z291 f289 (fun q => absurd q hsa0) ⟨⟨by decide, by decide⟩, rfl⟩) hZ (hw _ (List.mem_of_getElem? (i := 47) rfl)) (hw _ (List.mem_of_getElem? (i := 3) rfl)) (by decide) (by decide)) (g := (mkF m 177 #[.val (.int p1), .val (.int p2), .val (.int p3), .val (.int p4), .val (.int p5), .val (.int p6), .val (.int (4 : Int32)), .val (.int sa), .val (.int cp), .val (.ref b8), .val (.ref b57), .unset] [(.int (4 : Int32)), (.int sa), (.int (0 : Int32)), (.ref b8)])) rfl (by rw [hml]; rfl) (argsL := [(.ref b8), (.int (0 : Int32)), (.int sa), (.int (4 : Int32))]) (rest := []) (lenOf pd_8 rfl) rfl (by show 2 * 0 + _ ≤ _; exact Nat.le_of_eq rfl) (hb hby at_177) (fun _ _ => ⟨rfl, rfl, (by decide : 7 + 0 ≤ _), (by decide : 55 + 0 ≤ _)⟩)
    dsimp only [Pt.U, Pt.locs, Pt.cells, Pt.slots] at X300 lq300 yq300 zq300 st300 hQ300
    subst lq300 yq300 zq300
    obtain ⟨rfl, Nq300, e300⟩ := hQ300
    have N301 := Fr.app N288 Nq300
    have K302 : ∀ t, Steps p.tables e below (T300.setTop (mkF m 180 #[.val (.int p1), .val (.int p2), .val (.int p3), .val (.int p4), .val (.int p5), .val (.int p6), .val (.int (4 : Int32)), .val (.int sa), .val (.int cp), .val (.ref b8), .val (.ref b57), .unset] [(.int (own_con (0 : Int32) sa (4 : Int32) 0 (nar .char r13)))])) t → Steps p.tables e below G t := fun t k => K299 t (st300 _ k)
    have K303 : ∀ t, Steps p.tables e below (T300.setTop (mkF m 187 #[.val (.int p1), .val (.int p2), .val (.int p3), .val (.int p4), .val (.int p5), .val (.int p6), .val (.int (4 : Int32)), .val (.int sa), .val (.int cp), .val (.ref b8), .val (.ref b57), .unset] [(.int (4 : Int32)), (.int sa), (.int (1 : Int32)), (.ref b8), (.int (own_con (0 : Int32) sa (4 : Int32) 0 (nar .char r13)))])) t → Steps p.tables e below G t := by
      intro t k
      refine K302 t ?_
      show Steps p.tables e below (T300.setTop (mkF m 180 #[.val (.int p1), .val (.int p2), .val (.int p3), .val (.int p4), .val (.int p5), .val (.int p6), .val (.int (4 : Int32)), .val (.int sa), .val (.int cp), .val (.ref b8), .val (.ref b57), .unset] [(.int (own_con (0 : Int32) sa (4 : Int32) 0 (nar .char r13)))])) _
      refine XS.aload X300.here hx rfl (hb hby at_180) rfl rfl ?_
      show Steps p.tables e below (T300.setTop (mkF m 182 #[.val (.int p1), .val (.int p2), .val (.int p3), .val (.int p4), .val (.int p5), .val (.int p6), .val (.int (4 : Int32)), .val (.int sa), .val (.int cp), .val (.ref b8), .val (.ref b57), .unset] [(.ref b8), (.int (own_con (0 : Int32) sa (4 : Int32) 0 (nar .char r13)))])) _
      refine XS.iconst X300.here hx rfl (hb hby at_182) ?_
      show Steps p.tables e below (T300.setTop (mkF m 183 #[.val (.int p1), .val (.int p2), .val (.int p3), .val (.int p4), .val (.int p5), .val (.int p6), .val (.int (4 : Int32)), .val (.int sa), .val (.int cp), .val (.ref b8), .val (.ref b57), .unset] [(.int (1 : Int32)), (.ref b8), (.int (own_con (0 : Int32) sa (4 : Int32) 0 (nar .char r13)))])) _
      refine XS.iload X300.here hx rfl (hb hby at_183) rfl ?_
      show Steps p.tables e below (T300.setTop (mkF m 185 #[.val (.int p1), .val (.int p2), .val (.int p3), .val (.int p4), .val (.int p5), .val (.int p6), .val (.int (4 : Int32)), .val (.int sa), .val (.int cp), .val (.ref b8), .val (.ref b57), .unset] [(.int sa), (.int (1 : Int32)), (.ref b8), (.int (own_con (0 : Int32) sa (4 : Int32) 0 (nar .char r13)))])) _
      refine XS.iload X300.here hx rfl (hb hby at_185) rfl ?_
      show Steps p.tables e below (T300.setTop (mkF m 187 #[.val (.int p1), .val (.int p2), .val (.int p3), .val (.int p4), .val (.int p5), .val (.int p6), .val (.int (4 : Int32)), .val (.int sa), .val (.int cp), .val (.ref b8), .val (.ref b57), .unset] [(.int (4 : Int32)), (.int sa), (.int (1 : Int32)), (.ref b8), (.int (own_con (0 : Int32) sa (4 : Int32) 0 (nar .char r13)))])) _
      exact k
    obtain ⟨_, _, ⟨T304, L304, kk304, nn304⟩, -, X304, ⟨Lc304, hQ304, lq304, yq304, zq304⟩, st304⟩ := Jvm.LawKit.callS X300 hx (y := (⟨"org/arborlog/pattern/LineTextCodePointCountPinLaw", "contrib", "([CIII)I"⟩ : MethodName)) hown (mvT hZ (hw _ (List.mem_of_getElem? (i := 45) rfl))) (mvT hZ (hw _ (List.mem_of_getElem? (i := 46) rfl))) (mvT hZ (hw _ (List.mem_of_getElem? (i := 3) rfl))) (mvT hZ (hw _ (List.mem_of_getElem? (i := 47) rfl))) (by decide) (backOf (W := 1) (rm9 l Z a0 hw [] b8 (1 : Int32) sa (4 : Int32) kn8 [(.int (nar .char r13)), (.int (nar .char r22)), (.int (nar .char r31)), (.int (nar .char r40)), (.int (nar .char r49))] (nar .char r13) (nar .char r22) T287.heap n0 Z291 f289 (fun _ => ⟨⟨by decide, by decide⟩, rfl⟩) ⟨⟨by decide, by decide⟩, rfl⟩) hZ (hw _ (List.mem_of_getElem? (i := 47) rfl)) (hw _ (List.mem_of_getElem? (i := 3) rfl)) (by decide) (by decide)) (g := (mkF m 187 #[.val (.int p1), .val (.int p2), .val (.int p3), .val (.int p4), .val (.int p5), .val (.int p6), .val (.int (4 : Int32)), .val (.int sa), .val (.int cp), .val (.ref b8), .val (.ref b57), .unset] [(.int (4 : Int32)), (.int sa), (.int (1 : Int32)), (.ref b8), (.int (own_con (0 : Int32) sa (4 : Int32) 0 (nar .char r13)))])) rfl (by rw [hml]; rfl) (argsL := [(.ref b8), (.int (1 : Int32)), (.int sa), (.int (4 : Int32))]) (rest := [(.int (own_con (0 : Int32) sa (4 : Int32) 0 (nar .char r13)))]) (lenOf pd_8 rfl) rfl (by show 2 * 0 + _ ≤ _; exact Nat.le_of_eq rfl) (hb hby at_187) (fun _ _ => ⟨rfl, e300, (by decide : 7 + 0 ≤ _), (by decide : 55 + 0 ≤ _)⟩)
    dsimp only [Pt.U, Pt.locs, Pt.cells, Pt.slots] at X304 lq304 yq304 zq304 st304 hQ304
    subst lq304 yq304 zq304
    obtain ⟨rfl, Nq304, e304⟩ := hQ304
    have N305 := Fr.app N301 Nq304
    have K306 : ∀ t, Steps p.tables e below (T304.setTop (mkF m 190 #[.val (.int p1), .val (.int p2), .val (.int p3), .val (.int p4), .val (.int p5), .val (.int p6), .val (.int (4 : Int32)), .val (.int sa), .val (.int cp), .val (.ref b8), .val (.ref b57), .unset] [(.int (own_con (1 : Int32) sa (4 : Int32) (nar .char r13) (nar .char r22))), (.int (own_con (0 : Int32) sa (4 : Int32) 0 (nar .char r13)))])) t → Steps p.tables e below G t := fun t k => K303 t (st304 _ k)
    have K307 : ∀ t, Steps p.tables e below (T304.setTop (mkF m 198 #[.val (.int p1), .val (.int p2), .val (.int p3), .val (.int p4), .val (.int p5), .val (.int p6), .val (.int (4 : Int32)), .val (.int sa), .val (.int cp), .val (.ref b8), .val (.ref b57), .unset] [(.int (4 : Int32)), (.int sa), (.int (2 : Int32)), (.ref b8), (.int ((own_con (0 : Int32) sa (4 : Int32) 0 (nar .char r13)) + (own_con (1 : Int32) sa (4 : Int32) (nar .char r13) (nar .char r22))))])) t → Steps p.tables e below G t := by
      intro t k
      refine K306 t ?_
      show Steps p.tables e below (T304.setTop (mkF m 190 #[.val (.int p1), .val (.int p2), .val (.int p3), .val (.int p4), .val (.int p5), .val (.int p6), .val (.int (4 : Int32)), .val (.int sa), .val (.int cp), .val (.ref b8), .val (.ref b57), .unset] [(.int (own_con (1 : Int32) sa (4 : Int32) (nar .char r13) (nar .char r22))), (.int (own_con (0 : Int32) sa (4 : Int32) 0 (nar .char r13)))])) _
      refine XS.iadd X304.here hx rfl (hb hby at_190) rfl ?_
      show Steps p.tables e below (T304.setTop (mkF m 191 #[.val (.int p1), .val (.int p2), .val (.int p3), .val (.int p4), .val (.int p5), .val (.int p6), .val (.int (4 : Int32)), .val (.int sa), .val (.int cp), .val (.ref b8), .val (.ref b57), .unset] [(.int ((own_con (0 : Int32) sa (4 : Int32) 0 (nar .char r13)) + (own_con (1 : Int32) sa (4 : Int32) (nar .char r13) (nar .char r22))))])) _
      refine XS.aload X304.here hx rfl (hb hby at_191) rfl rfl ?_
      show Steps p.tables e below (T304.setTop (mkF m 193 #[.val (.int p1), .val (.int p2), .val (.int p3), .val (.int p4), .val (.int p5), .val (.int p6), .val (.int (4 : Int32)), .val (.int sa), .val (.int cp), .val (.ref b8), .val (.ref b57), .unset] [(.ref b8), (.int ((own_con (0 : Int32) sa (4 : Int32) 0 (nar .char r13)) + (own_con (1 : Int32) sa (4 : Int32) (nar .char r13) (nar .char r22))))])) _
      refine XS.iconst X304.here hx rfl (hb hby at_193) ?_
      show Steps p.tables e below (T304.setTop (mkF m 194 #[.val (.int p1), .val (.int p2), .val (.int p3), .val (.int p4), .val (.int p5), .val (.int p6), .val (.int (4 : Int32)), .val (.int sa), .val (.int cp), .val (.ref b8), .val (.ref b57), .unset] [(.int (2 : Int32)), (.ref b8), (.int ((own_con (0 : Int32) sa (4 : Int32) 0 (nar .char r13)) + (own_con (1 : Int32) sa (4 : Int32) (nar .char r13) (nar .char r22))))])) _
      refine XS.iload X304.here hx rfl (hb hby at_194) rfl ?_
      show Steps p.tables e below (T304.setTop (mkF m 196 #[.val (.int p1), .val (.int p2), .val (.int p3), .val (.int p4), .val (.int p5), .val (.int p6), .val (.int (4 : Int32)), .val (.int sa), .val (.int cp), .val (.ref b8), .val (.ref b57), .unset] [(.int sa), (.int (2 : Int32)), (.ref b8), (.int ((own_con (0 : Int32) sa (4 : Int32) 0 (nar .char r13)) + (own_con (1 : Int32) sa (4 : Int32) (nar .char r13) (nar .char r22))))])) _
      refine XS.iload X304.here hx rfl (hb hby at_196) rfl ?_
      show Steps p.tables e below (T304.setTop (mkF m 198 #[.val (.int p1), .val (.int p2), .val (.int p3), .val (.int p4), .val (.int p5), .val (.int p6), .val (.int (4 : Int32)), .val (.int sa), .val (.int cp), .val (.ref b8), .val (.ref b57), .unset] [(.int (4 : Int32)), (.int sa), (.int (2 : Int32)), (.ref b8), (.int ((own_con (0 : Int32) sa (4 : Int32) 0 (nar .char r13)) + (own_con (1 : Int32) sa (4 : Int32) (nar .char r13) (nar .char r22))))])) _
      exact k
    obtain ⟨_, _, ⟨T308, L308, kk308, nn308⟩, -, X308, ⟨Lc308, hQ308, lq308, yq308, zq308⟩, st308⟩ := Jvm.LawKit.callS X304 hx (y := (⟨"org/arborlog/pattern/LineTextCodePointCountPinLaw", "contrib", "([CIII)I"⟩ : MethodName)) hown (mvT hZ (hw _ (List.mem_of_getElem? (i := 45) rfl))) (mvT hZ (hw _ (List.mem_of_getElem? (i := 46) rfl))) (mvT hZ (hw _ (List.mem_of_getElem? (i := 3) rfl))) (mvT hZ (hw _ (List.mem_of_getElem? (i := 47) rfl))) (by decide) (backOf (W := 1) (rm9 l Z a0 hw [] b8 (2 : Int32) sa (4 : Int32) kn8 [(.int (nar .char r13)), (.int (nar .char r22)), (.int (nar .char r31)), (.int (nar .char r40)), (.int (nar .char r49))] (nar .char r22) (nar .char r31) T287.heap n0 Z291 f289 (fun _ => ⟨⟨by decide, by decide⟩, rfl⟩) ⟨⟨by decide, by decide⟩, rfl⟩) hZ (hw _ (List.mem_of_getElem? (i := 47) rfl)) (hw _ (List.mem_of_getElem? (i := 3) rfl)) (by decide) (by decide)) (g := (mkF m 198 #[.val (.int p1), .val (.int p2), .val (.int p3), .val (.int p4), .val (.int p5), .val (.int p6), .val (.int (4 : Int32)), .val (.int sa), .val (.int cp), .val (.ref b8), .val (.ref b57), .unset] [(.int (4 : Int32)), (.int sa), (.int (2 : Int32)), (.ref b8), (.int ((own_con (0 : Int32) sa (4 : Int32) 0 (nar .char r13)) + (own_con (1 : Int32) sa (4 : Int32) (nar .char r13) (nar .char r22))))])) rfl (by rw [hml]; rfl) (argsL := [(.ref b8), (.int (2 : Int32)), (.int sa), (.int (4 : Int32))]) (rest := [(.int ((own_con (0 : Int32) sa (4 : Int32) 0 (nar .char r13)) + (own_con (1 : Int32) sa (4 : Int32) (nar .char r13) (nar .char r22))))]) (lenOf pd_8 rfl) rfl (by show 2 * 0 + _ ≤ _; exact Nat.le_of_eq rfl) (hb hby at_198) (fun _ _ => ⟨rfl, e304, (by decide : 7 + 0 ≤ _), (by decide : 55 + 0 ≤ _)⟩)
    dsimp only [Pt.U, Pt.locs, Pt.cells, Pt.slots] at X308 lq308 yq308 zq308 st308 hQ308
    subst lq308 yq308 zq308
    obtain ⟨rfl, Nq308, e308⟩ := hQ308
    have N309 := Fr.app N305 Nq308
    have K310 : ∀ t, Steps p.tables e below (T308.setTop (mkF m 201 #[.val (.int p1), .val (.int p2), .val (.int p3), .val (.int p4), .val (.int p5), .val (.int p6), .val (.int (4 : Int32)), .val (.int sa), .val (.int cp), .val (.ref b8), .val (.ref b57), .unset] [(.int (own_con (2 : Int32) sa (4 : Int32) (nar .char r22) (nar .char r31))), (.int ((own_con (0 : Int32) sa (4 : Int32) 0 (nar .char r13)) + (own_con (1 : Int32) sa (4 : Int32) (nar .char r13) (nar .char r22))))])) t → Steps p.tables e below G t := fun t k => K307 t (st308 _ k)
    have K311 : ∀ t, Steps p.tables e below (T308.setTop (mkF m 209 #[.val (.int p1), .val (.int p2), .val (.int p3), .val (.int p4), .val (.int p5), .val (.int p6), .val (.int (4 : Int32)), .val (.int sa), .val (.int cp), .val (.ref b8), .val (.ref b57), .unset] [(.int (4 : Int32)), (.int sa), (.int (3 : Int32)), (.ref b8), (.int (((own_con (0 : Int32) sa (4 : Int32) 0 (nar .char r13)) + (own_con (1 : Int32) sa (4 : Int32) (nar .char r13) (nar .char r22))) + (own_con (2 : Int32) sa (4 : Int32) (nar .char r22) (nar .char r31))))])) t → Steps p.tables e below G t := by
      intro t k
      refine K310 t ?_
      show Steps p.tables e below (T308.setTop (mkF m 201 #[.val (.int p1), .val (.int p2), .val (.int p3), .val (.int p4), .val (.int p5), .val (.int p6), .val (.int (4 : Int32)), .val (.int sa), .val (.int cp), .val (.ref b8), .val (.ref b57), .unset] [(.int (own_con (2 : Int32) sa (4 : Int32) (nar .char r22) (nar .char r31))), (.int ((own_con (0 : Int32) sa (4 : Int32) 0 (nar .char r13)) + (own_con (1 : Int32) sa (4 : Int32) (nar .char r13) (nar .char r22))))])) _
      refine XS.iadd X308.here hx rfl (hb hby at_201) rfl ?_
      show Steps p.tables e below (T308.setTop (mkF m 202 #[.val (.int p1), .val (.int p2), .val (.int p3), .val (.int p4), .val (.int p5), .val (.int p6), .val (.int (4 : Int32)), .val (.int sa), .val (.int cp), .val (.ref b8), .val (.ref b57), .unset] [(.int (((own_con (0 : Int32) sa (4 : Int32) 0 (nar .char r13)) + (own_con (1 : Int32) sa (4 : Int32) (nar .char r13) (nar .char r22))) + (own_con (2 : Int32) sa (4 : Int32) (nar .char r22) (nar .char r31))))])) _
      refine XS.aload X308.here hx rfl (hb hby at_202) rfl rfl ?_
      show Steps p.tables e below (T308.setTop (mkF m 204 #[.val (.int p1), .val (.int p2), .val (.int p3), .val (.int p4), .val (.int p5), .val (.int p6), .val (.int (4 : Int32)), .val (.int sa), .val (.int cp), .val (.ref b8), .val (.ref b57), .unset] [(.ref b8), (.int (((own_con (0 : Int32) sa (4 : Int32) 0 (nar .char r13)) + (own_con (1 : Int32) sa (4 : Int32) (nar .char r13) (nar .char r22))) + (own_con (2 : Int32) sa (4 : Int32) (nar .char r22) (nar .char r31))))])) _
      refine XS.iconst X308.here hx rfl (hb hby at_204) ?_
      show Steps p.tables e below (T308.setTop (mkF m 205 #[.val (.int p1), .val (.int p2), .val (.int p3), .val (.int p4), .val (.int p5), .val (.int p6), .val (.int (4 : Int32)), .val (.int sa), .val (.int cp), .val (.ref b8), .val (.ref b57), .unset] [(.int (3 : Int32)), (.ref b8), (.int (((own_con (0 : Int32) sa (4 : Int32) 0 (nar .char r13)) + (own_con (1 : Int32) sa (4 : Int32) (nar .char r13) (nar .char r22))) + (own_con (2 : Int32) sa (4 : Int32) (nar .char r22) (nar .char r31))))])) _
      refine XS.iload X308.here hx rfl (hb hby at_205) rfl ?_
      show Steps p.tables e below (T308.setTop (mkF m 207 #[.val (.int p1), .val (.int p2), .val (.int p3), .val (.int p4), .val (.int p5), .val (.int p6), .val (.int (4 : Int32)), .val (.int sa), .val (.int cp), .val (.ref b8), .val (.ref b57), .unset] [(.int sa), (.int (3 : Int32)), (.ref b8), (.int (((own_con (0 : Int32) sa (4 : Int32) 0 (nar .char r13)) + (own_con (1 : Int32) sa (4 : Int32) (nar .char r13) (nar .char r22))) + (own_con (2 : Int32) sa (4 : Int32) (nar .char r22) (nar .char r31))))])) _
      refine XS.iload X308.here hx rfl (hb hby at_207) rfl ?_
      show Steps p.tables e below (T308.setTop (mkF m 209 #[.val (.int p1), .val (.int p2), .val (.int p3), .val (.int p4), .val (.int p5), .val (.int p6), .val (.int (4 : Int32)), .val (.int sa), .val (.int cp), .val (.ref b8), .val (.ref b57), .unset] [(.int (4 : Int32)), (.int sa), (.int (3 : Int32)), (.ref b8), (.int (((own_con (0 : Int32) sa (4 : Int32) 0 (nar .char r13)) + (own_con (1 : Int32) sa (4 : Int32) (nar .char r13) (nar .char r22))) + (own_con (2 : Int32) sa (4 : Int32) (nar .char r22) (nar .char r31))))])) _
      exact k
    obtain ⟨_, _, ⟨T312, L312, kk312, nn312⟩, -, X312, ⟨Lc312, hQ312, lq312, yq312, zq312⟩, st312⟩ := Jvm.LawKit.callS X308 hx (y := (⟨"org/arborlog/pattern/LineTextCodePointCountPinLaw", "contrib", "([CIII)I"⟩ : MethodName)) hown (mvT hZ (hw _ (List.mem_of_getElem? (i := 45) rfl))) (mvT hZ (hw _ (List.mem_of_getElem? (i := 46) rfl))) (mvT hZ (hw _ (List.mem_of_getElem? (i := 3) rfl))) (mvT hZ (hw _ (List.mem_of_getElem? (i := 47) rfl))) (by decide) (backOf (W := 1) (rm9 l Z a0 hw [] b8 (3 : Int32) sa (4 : Int32) kn8 [(.int (nar .char r13)), (.int (nar .char r22)), (.int (nar .char r31)), (.int (nar .char r40)), (.int (nar .char r49))] (nar .char r31) (nar .char r40) T287.heap n0 Z291 f289 (fun _ => ⟨⟨by decide, by decide⟩, rfl⟩) ⟨⟨by decide, by decide⟩, rfl⟩) hZ (hw _ (List.mem_of_getElem? (i := 47) rfl)) (hw _ (List.mem_of_getElem? (i := 3) rfl)) (by decide) (by decide)) (g := (mkF m 209 #[.val (.int p1), .val (.int p2), .val (.int p3), .val (.int p4), .val (.int p5), .val (.int p6), .val (.int (4 : Int32)), .val (.int sa), .val (.int cp), .val (.ref b8), .val (.ref b57), .unset] [(.int (4 : Int32)), (.int sa), (.int (3 : Int32)), (.ref b8), (.int (((own_con (0 : Int32) sa (4 : Int32) 0 (nar .char r13)) + (own_con (1 : Int32) sa (4 : Int32) (nar .char r13) (nar .char r22))) + (own_con (2 : Int32) sa (4 : Int32) (nar .char r22) (nar .char r31))))])) rfl (by rw [hml]; rfl) (argsL := [(.ref b8), (.int (3 : Int32)), (.int sa), (.int (4 : Int32))]) (rest := [(.int (((own_con (0 : Int32) sa (4 : Int32) 0 (nar .char r13)) + (own_con (1 : Int32) sa (4 : Int32) (nar .char r13) (nar .char r22))) + (own_con (2 : Int32) sa (4 : Int32) (nar .char r22) (nar .char r31))))]) (lenOf pd_8 rfl) rfl (by show 2 * 0 + _ ≤ _; exact Nat.le_of_eq rfl) (hb hby at_209) (fun _ _ => ⟨rfl, e308, (by decide : 7 + 0 ≤ _), (by decide : 55 + 0 ≤ _)⟩)
    dsimp only [Pt.U, Pt.locs, Pt.cells, Pt.slots] at X312 lq312 yq312 zq312 st312 hQ312
    subst lq312 yq312 zq312
    obtain ⟨rfl, Nq312, e312⟩ := hQ312
    have N313 := Fr.app N309 Nq312
    have K314 : ∀ t, Steps p.tables e below (T312.setTop (mkF m 212 #[.val (.int p1), .val (.int p2), .val (.int p3), .val (.int p4), .val (.int p5), .val (.int p6), .val (.int (4 : Int32)), .val (.int sa), .val (.int cp), .val (.ref b8), .val (.ref b57), .unset] [(.int (own_con (3 : Int32) sa (4 : Int32) (nar .char r31) (nar .char r40))), (.int (((own_con (0 : Int32) sa (4 : Int32) 0 (nar .char r13)) + (own_con (1 : Int32) sa (4 : Int32) (nar .char r13) (nar .char r22))) + (own_con (2 : Int32) sa (4 : Int32) (nar .char r22) (nar .char r31))))])) t → Steps p.tables e below G t := fun t k => K311 t (st312 _ k)
    have K315 : ∀ t, Steps p.tables e below (T312.setTop (mkF m 220 #[.val (.int p1), .val (.int p2), .val (.int p3), .val (.int p4), .val (.int p5), .val (.int p6), .val (.int (4 : Int32)), .val (.int sa), .val (.int cp), .val (.ref b8), .val (.ref b57), .unset] [(.int (4 : Int32)), (.int sa), (.int (4 : Int32)), (.ref b8), (.int ((((own_con (0 : Int32) sa (4 : Int32) 0 (nar .char r13)) + (own_con (1 : Int32) sa (4 : Int32) (nar .char r13) (nar .char r22))) + (own_con (2 : Int32) sa (4 : Int32) (nar .char r22) (nar .char r31))) + (own_con (3 : Int32) sa (4 : Int32) (nar .char r31) (nar .char r40))))])) t → Steps p.tables e below G t := by
      intro t k
      refine K314 t ?_
      show Steps p.tables e below (T312.setTop (mkF m 212 #[.val (.int p1), .val (.int p2), .val (.int p3), .val (.int p4), .val (.int p5), .val (.int p6), .val (.int (4 : Int32)), .val (.int sa), .val (.int cp), .val (.ref b8), .val (.ref b57), .unset] [(.int (own_con (3 : Int32) sa (4 : Int32) (nar .char r31) (nar .char r40))), (.int (((own_con (0 : Int32) sa (4 : Int32) 0 (nar .char r13)) + (own_con (1 : Int32) sa (4 : Int32) (nar .char r13) (nar .char r22))) + (own_con (2 : Int32) sa (4 : Int32) (nar .char r22) (nar .char r31))))])) _
      refine XS.iadd X312.here hx rfl (hb hby at_212) rfl ?_
      show Steps p.tables e below (T312.setTop (mkF m 213 #[.val (.int p1), .val (.int p2), .val (.int p3), .val (.int p4), .val (.int p5), .val (.int p6), .val (.int (4 : Int32)), .val (.int sa), .val (.int cp), .val (.ref b8), .val (.ref b57), .unset] [(.int ((((own_con (0 : Int32) sa (4 : Int32) 0 (nar .char r13)) + (own_con (1 : Int32) sa (4 : Int32) (nar .char r13) (nar .char r22))) + (own_con (2 : Int32) sa (4 : Int32) (nar .char r22) (nar .char r31))) + (own_con (3 : Int32) sa (4 : Int32) (nar .char r31) (nar .char r40))))])) _
      refine XS.aload X312.here hx rfl (hb hby at_213) rfl rfl ?_
      show Steps p.tables e below (T312.setTop (mkF m 215 #[.val (.int p1), .val (.int p2), .val (.int p3), .val (.int p4), .val (.int p5), .val (.int p6), .val (.int (4 : Int32)), .val (.int sa), .val (.int cp), .val (.ref b8), .val (.ref b57), .unset] [(.ref b8), (.int ((((own_con (0 : Int32) sa (4 : Int32) 0 (nar .char r13)) + (own_con (1 : Int32) sa (4 : Int32) (nar .char r13) (nar .char r22))) + (own_con (2 : Int32) sa (4 : Int32) (nar .char r22) (nar .char r31))) + (own_con (3 : Int32) sa (4 : Int32) (nar .char r31) (nar .char r40))))])) _
      refine XS.iconst X312.here hx rfl (hb hby at_215) ?_
      show Steps p.tables e below (T312.setTop (mkF m 216 #[.val (.int p1), .val (.int p2), .val (.int p3), .val (.int p4), .val (.int p5), .val (.int p6), .val (.int (4 : Int32)), .val (.int sa), .val (.int cp), .val (.ref b8), .val (.ref b57), .unset] [(.int (4 : Int32)), (.ref b8), (.int ((((own_con (0 : Int32) sa (4 : Int32) 0 (nar .char r13)) + (own_con (1 : Int32) sa (4 : Int32) (nar .char r13) (nar .char r22))) + (own_con (2 : Int32) sa (4 : Int32) (nar .char r22) (nar .char r31))) + (own_con (3 : Int32) sa (4 : Int32) (nar .char r31) (nar .char r40))))])) _
      refine XS.iload X312.here hx rfl (hb hby at_216) rfl ?_
      show Steps p.tables e below (T312.setTop (mkF m 218 #[.val (.int p1), .val (.int p2), .val (.int p3), .val (.int p4), .val (.int p5), .val (.int p6), .val (.int (4 : Int32)), .val (.int sa), .val (.int cp), .val (.ref b8), .val (.ref b57), .unset] [(.int sa), (.int (4 : Int32)), (.ref b8), (.int ((((own_con (0 : Int32) sa (4 : Int32) 0 (nar .char r13)) + (own_con (1 : Int32) sa (4 : Int32) (nar .char r13) (nar .char r22))) + (own_con (2 : Int32) sa (4 : Int32) (nar .char r22) (nar .char r31))) + (own_con (3 : Int32) sa (4 : Int32) (nar .char r31) (nar .char r40))))])) _
      refine XS.iload X312.here hx rfl (hb hby at_218) rfl ?_
      show Steps p.tables e below (T312.setTop (mkF m 220 #[.val (.int p1), .val (.int p2), .val (.int p3), .val (.int p4), .val (.int p5), .val (.int p6), .val (.int (4 : Int32)), .val (.int sa), .val (.int cp), .val (.ref b8), .val (.ref b57), .unset] [(.int (4 : Int32)), (.int sa), (.int (4 : Int32)), (.ref b8), (.int ((((own_con (0 : Int32) sa (4 : Int32) 0 (nar .char r13)) + (own_con (1 : Int32) sa (4 : Int32) (nar .char r13) (nar .char r22))) + (own_con (2 : Int32) sa (4 : Int32) (nar .char r22) (nar .char r31))) + (own_con (3 : Int32) sa (4 : Int32) (nar .char r31) (nar .char r40))))])) _
      exact k
    obtain ⟨_, _, ⟨T316, L316, kk316, nn316⟩, -, X316, ⟨Lc316, hQ316, lq316, yq316, zq316⟩, st316⟩ := Jvm.LawKit.callS X312 hx (y := (⟨"org/arborlog/pattern/LineTextCodePointCountPinLaw", "contrib", "([CIII)I"⟩ : MethodName)) hown (mvT hZ (hw _ (List.mem_of_getElem? (i := 45) rfl))) (mvT hZ (hw _ (List.mem_of_getElem? (i := 46) rfl))) (mvT hZ (hw _ (List.mem_of_getElem? (i := 3) rfl))) (mvT hZ (hw _ (List.mem_of_getElem? (i := 47) rfl))) (by decide) (backOf (W := 1) (rm9 l Z a0 hw [] b8 (4 : Int32) sa (4 : Int32) kn8 [(.int (nar .char r13)), (.int (nar .char r22)), (.int (nar .char r31)), (.int (nar .char r40)), (.int (nar .char r49))] (nar .char r40) (nar .char r49) T287.heap n0 Z291 f289 (fun _ => ⟨⟨by decide, by decide⟩, rfl⟩) ⟨⟨by decide, by decide⟩, rfl⟩) hZ (hw _ (List.mem_of_getElem? (i := 47) rfl)) (hw _ (List.mem_of_getElem? (i := 3) rfl)) (by decide) (by decide)) (g := (mkF m 220 #[.val (.int p1), .val (.int p2), .val (.int p3), .val (.int p4), .val (.int p5), .val (.int p6), .val (.int (4 : Int32)), .val (.int sa), .val (.int cp), .val (.ref b8), .val (.ref b57), .unset] [(.int (4 : Int32)), (.int sa), (.int (4 : Int32)), (.ref b8), (.int ((((own_con (0 : Int32) sa (4 : Int32) 0 (nar .char r13)) + (own_con (1 : Int32) sa (4 : Int32) (nar .char r13) (nar .char r22))) + (own_con (2 : Int32) sa (4 : Int32) (nar .char r22) (nar .char r31))) + (own_con (3 : Int32) sa (4 : Int32) (nar .char r31) (nar .char r40))))])) rfl (by rw [hml]; rfl) (argsL := [(.ref b8), (.int (4 : Int32)), (.int sa), (.int (4 : Int32))]) (rest := [(.int ((((own_con (0 : Int32) sa (4 : Int32) 0 (nar .char r13)) + (own_con (1 : Int32) sa (4 : Int32) (nar .char r13) (nar .char r22))) + (own_con (2 : Int32) sa (4 : Int32) (nar .char r22) (nar .char r31))) + (own_con (3 : Int32) sa (4 : Int32) (nar .char r31) (nar .char r40))))]) (lenOf pd_8 rfl) rfl (by show 2 * 0 + _ ≤ _; exact Nat.le_of_eq rfl) (hb hby at_220) (fun _ _ => ⟨rfl, e312, (by decide : 7 + 0 ≤ _), (by decide : 55 + 0 ≤ _)⟩)
    dsimp only [Pt.U, Pt.locs, Pt.cells, Pt.slots] at X316 lq316 yq316 zq316 st316 hQ316
    subst lq316 yq316 zq316
    obtain ⟨rfl, Nq316, e316⟩ := hQ316
    have N317 := Fr.app N313 Nq316
    have K318 : ∀ t, Steps p.tables e below (T316.setTop (mkF m 223 #[.val (.int p1), .val (.int p2), .val (.int p3), .val (.int p4), .val (.int p5), .val (.int p6), .val (.int (4 : Int32)), .val (.int sa), .val (.int cp), .val (.ref b8), .val (.ref b57), .unset] [(.int (own_con (4 : Int32) sa (4 : Int32) (nar .char r40) (nar .char r49))), (.int ((((own_con (0 : Int32) sa (4 : Int32) 0 (nar .char r13)) + (own_con (1 : Int32) sa (4 : Int32) (nar .char r13) (nar .char r22))) + (own_con (2 : Int32) sa (4 : Int32) (nar .char r22) (nar .char r31))) + (own_con (3 : Int32) sa (4 : Int32) (nar .char r31) (nar .char r40))))])) t → Steps p.tables e below G t := fun t k => K315 t (st316 _ k)
    have K319 : ∀ t, Steps p.tables e below (T316.setTop (mkF m 230 #[.val (.int p1), .val (.int p2), .val (.int p3), .val (.int p4), .val (.int p5), .val (.int p6), .val (.int (4 : Int32)), .val (.int sa), .val (.int cp), .val (.ref b8), .val (.ref b57), .val (.int (((((own_con (0 : Int32) sa (4 : Int32) 0 (nar .char r13)) + (own_con (1 : Int32) sa (4 : Int32) (nar .char r13) (nar .char r22))) + (own_con (2 : Int32) sa (4 : Int32) (nar .char r22) (nar .char r31))) + (own_con (3 : Int32) sa (4 : Int32) (nar .char r31) (nar .char r40))) + (own_con (4 : Int32) sa (4 : Int32) (nar .char r40) (nar .char r49))))] [(.int sa), (.ref b57)])) t → Steps p.tables e below G t := by
      intro t k
      refine K318 t ?_
      show Steps p.tables e below (T316.setTop (mkF m 223 #[.val (.int p1), .val (.int p2), .val (.int p3), .val (.int p4), .val (.int p5), .val (.int p6), .val (.int (4 : Int32)), .val (.int sa), .val (.int cp), .val (.ref b8), .val (.ref b57), .unset] [(.int (own_con (4 : Int32) sa (4 : Int32) (nar .char r40) (nar .char r49))), (.int ((((own_con (0 : Int32) sa (4 : Int32) 0 (nar .char r13)) + (own_con (1 : Int32) sa (4 : Int32) (nar .char r13) (nar .char r22))) + (own_con (2 : Int32) sa (4 : Int32) (nar .char r22) (nar .char r31))) + (own_con (3 : Int32) sa (4 : Int32) (nar .char r31) (nar .char r40))))])) _
      refine XS.iadd X316.here hx rfl (hb hby at_223) rfl ?_
      show Steps p.tables e below (T316.setTop (mkF m 224 #[.val (.int p1), .val (.int p2), .val (.int p3), .val (.int p4), .val (.int p5), .val (.int p6), .val (.int (4 : Int32)), .val (.int sa), .val (.int cp), .val (.ref b8), .val (.ref b57), .unset] [(.int (((((own_con (0 : Int32) sa (4 : Int32) 0 (nar .char r13)) + (own_con (1 : Int32) sa (4 : Int32) (nar .char r13) (nar .char r22))) + (own_con (2 : Int32) sa (4 : Int32) (nar .char r22) (nar .char r31))) + (own_con (3 : Int32) sa (4 : Int32) (nar .char r31) (nar .char r40))) + (own_con (4 : Int32) sa (4 : Int32) (nar .char r40) (nar .char r49))))])) _
      refine XS.istore X316.here hx rfl (hb hby at_224) rfl (l' := #[.val (.int p1), .val (.int p2), .val (.int p3), .val (.int p4), .val (.int p5), .val (.int p6), .val (.int (4 : Int32)), .val (.int sa), .val (.int cp), .val (.ref b8), .val (.ref b57), .val (.int (((((own_con (0 : Int32) sa (4 : Int32) 0 (nar .char r13)) + (own_con (1 : Int32) sa (4 : Int32) (nar .char r13) (nar .char r22))) + (own_con (2 : Int32) sa (4 : Int32) (nar .char r22) (nar .char r31))) + (own_con (3 : Int32) sa (4 : Int32) (nar .char r31) (nar .char r40))) + (own_con (4 : Int32) sa (4 : Int32) (nar .char r40) (nar .char r49))))]) rfl ?_
      show Steps p.tables e below (T316.setTop (mkF m 226 #[.val (.int p1), .val (.int p2), .val (.int p3), .val (.int p4), .val (.int p5), .val (.int p6), .val (.int (4 : Int32)), .val (.int sa), .val (.int cp), .val (.ref b8), .val (.ref b57), .val (.int (((((own_con (0 : Int32) sa (4 : Int32) 0 (nar .char r13)) + (own_con (1 : Int32) sa (4 : Int32) (nar .char r13) (nar .char r22))) + (own_con (2 : Int32) sa (4 : Int32) (nar .char r22) (nar .char r31))) + (own_con (3 : Int32) sa (4 : Int32) (nar .char r31) (nar .char r40))) + (own_con (4 : Int32) sa (4 : Int32) (nar .char r40) (nar .char r49))))] [])) _
      refine XS.aload X316.here hx rfl (hb hby at_226) rfl rfl ?_
      show Steps p.tables e below (T316.setTop (mkF m 228 #[.val (.int p1), .val (.int p2), .val (.int p3), .val (.int p4), .val (.int p5), .val (.int p6), .val (.int (4 : Int32)), .val (.int sa), .val (.int cp), .val (.ref b8), .val (.ref b57), .val (.int (((((own_con (0 : Int32) sa (4 : Int32) 0 (nar .char r13)) + (own_con (1 : Int32) sa (4 : Int32) (nar .char r13) (nar .char r22))) + (own_con (2 : Int32) sa (4 : Int32) (nar .char r22) (nar .char r31))) + (own_con (3 : Int32) sa (4 : Int32) (nar .char r31) (nar .char r40))) + (own_con (4 : Int32) sa (4 : Int32) (nar .char r40) (nar .char r49))))] [(.ref b57)])) _
      refine XS.iload X316.here hx rfl (hb hby at_228) rfl ?_
      show Steps p.tables e below (T316.setTop (mkF m 230 #[.val (.int p1), .val (.int p2), .val (.int p3), .val (.int p4), .val (.int p5), .val (.int p6), .val (.int (4 : Int32)), .val (.int sa), .val (.int cp), .val (.ref b8), .val (.ref b57), .val (.int (((((own_con (0 : Int32) sa (4 : Int32) 0 (nar .char r13)) + (own_con (1 : Int32) sa (4 : Int32) (nar .char r13) (nar .char r22))) + (own_con (2 : Int32) sa (4 : Int32) (nar .char r22) (nar .char r31))) + (own_con (3 : Int32) sa (4 : Int32) (nar .char r31) (nar .char r40))) + (own_con (4 : Int32) sa (4 : Int32) (nar .char r40) (nar .char r49))))] [(.int sa), (.ref b57)])) _
      exact k
    obtain ⟨hp, hse⟩ := own_hp (by decide) hsa hz287.1
    have hf : ∀ j : Nat, j < (sa + ((4 : Int32) - sa)).toNatClampNeg → vs287.getD j (Value.int (0 : Int32)) = .int ((fun j => ([(nar .char r13), (nar .char r22), (nar .char r31), (nar .char r40), (nar .char r49)] : List Int32).getD j 0) j) := fun j hj => by
      rw [hse] at hj
      have hj' : j < 4 := hj
      match j, hj' with
      | 0, _ => exact ct294.trans (congrArg Value.int (own_nar _))
      | 1, _ => exact ct295.trans (congrArg Value.int (own_nar _))
      | 2, _ => exact ct296.trans (congrArg Value.int (own_nar _))
      | 3, _ => exact ct297.trans (congrArg Value.int (own_nar _))
      | j + 4, h => exact absurd h (by omega)
    obtain ⟨cq320, kq320, q320a, q320b, q320c⟩ := isOf hZ e316 E287'
    obtain ⟨_, _, ⟨T320, L320, kk320, nn320⟩, -, X320, ⟨Lc320, hQ320, lq320, yq320, zq320⟩, st320⟩ := X316.virtualBack hx (y := (⟨"org/arborlog/pattern/LineText", "codePointCount", "(I)I"⟩ : MethodName)) (z := (⟨"org/arborlog/pattern/LineText", "codePointCount", "(I)I"⟩ : MethodName)) hown (mvT hZ (hw _ (List.mem_of_getElem? (i := 51) rfl))) (mvT hZ (hw _ (List.mem_of_getElem? (i := 52) rfl))) (notFace_of_selects (args := #[]) (mvT hZ (hw _ (List.mem_of_getElem? (i := 54) rfl)))) (mvT hZ (hw _ (List.mem_of_getElem? (i := 54) rfl))) (mvT hZ (hw _ (List.mem_of_getElem? (i := 53) rfl))) (by decide) (backOf (W := 0) (rm11 l Z a0 hw [] b57 sa b287 (4 : Int32) kb287 zb287 vs287 (fun j => ([(nar .char r13), (nar .char r22), (nar .char r31), (nar .char r40), (nar .char r49)] : List Int32).getD j 0) T287.heap n0 Z291 Fc287 f293 Vb287 hp hf) hZ (hw _ (List.mem_of_getElem? (i := 55) rfl)) (hw _ (List.mem_of_getElem? (i := 10) rfl)) (by decide) (by decide)) q320a q320c (g := (mkF m 230 #[.val (.int p1), .val (.int p2), .val (.int p3), .val (.int p4), .val (.int p5), .val (.int p6), .val (.int (4 : Int32)), .val (.int sa), .val (.int cp), .val (.ref b8), .val (.ref b57), .val (.int (((((own_con (0 : Int32) sa (4 : Int32) 0 (nar .char r13)) + (own_con (1 : Int32) sa (4 : Int32) (nar .char r13) (nar .char r22))) + (own_con (2 : Int32) sa (4 : Int32) (nar .char r22) (nar .char r31))) + (own_con (3 : Int32) sa (4 : Int32) (nar .char r31) (nar .char r40))) + (own_con (4 : Int32) sa (4 : Int32) (nar .char r40) (nar .char r49))))] [(.int sa), (.ref b57)])) rfl (by rw [hml]; rfl) (Steps.refl _) (argsL := [(.int sa)]) (rest := []) (lenOf pd_9 rfl) rfl (by show 2 * 0 + _ ≤ _; exact Nat.le_of_eq rfl) (hb hby at_230) (fun _ _ => ⟨rfl, e316, (by decide : 7 + 0 ≤ _), (by decide : 55 + 0 ≤ _)⟩)
    dsimp only [Pt.U, Pt.locs, Pt.cells, Pt.slots] at X320 lq320 yq320 zq320 st320 hQ320
    subst lq320 yq320 zq320
    obtain ⟨rfl, Nq320, e320⟩ := hQ320
    have N321 := Fr.app N317 Nq320
    have K322 : ∀ t, Steps p.tables e below (T320.setTop (mkF m 233 #[.val (.int p1), .val (.int p2), .val (.int p3), .val (.int p4), .val (.int p5), .val (.int p6), .val (.int (4 : Int32)), .val (.int sa), .val (.int cp), .val (.ref b8), .val (.ref b57), .val (.int (((((own_con (0 : Int32) sa (4 : Int32) 0 (nar .char r13)) + (own_con (1 : Int32) sa (4 : Int32) (nar .char r13) (nar .char r22))) + (own_con (2 : Int32) sa (4 : Int32) (nar .char r22) (nar .char r31))) + (own_con (3 : Int32) sa (4 : Int32) (nar .char r31) (nar .char r40))) + (own_con (4 : Int32) sa (4 : Int32) (nar .char r40) (nar .char r49))))] [(.int (((4 : Int32) - sa) - own_pr (fun j => ([(nar .char r13), (nar .char r22), (nar .char r31), (nar .char r40), (nar .char r49)] : List Int32).getD j 0) ((4 : Int32) - sa).toNatClampNeg sa.toNatClampNeg))])) t → Steps p.tables e below G t := fun t k => K319 t (st320.trans k)
    have hfin : (((4 : Int32) - sa) - own_pr (fun j => ([(nar .char r13), (nar .char r22), (nar .char r31), (nar .char r40), (nar .char r49)] : List Int32).getD j 0) ((4 : Int32) - sa).toNatClampNeg sa.toNatClampNeg) = (((((own_con (0 : Int32) sa (4 : Int32) 0 (nar .char r13)) + (own_con (1 : Int32) sa (4 : Int32) (nar .char r13) (nar .char r22))) + (own_con (2 : Int32) sa (4 : Int32) (nar .char r22) (nar .char r31))) + (own_con (3 : Int32) sa (4 : Int32) (nar .char r31) (nar .char r40))) + (own_con (4 : Int32) sa (4 : Int32) (nar .char r40) (nar .char r49))) := by
      rcases own_n6 (n := sa) ⟨hsa.1, Int.le_trans hsa.2 (by decide)⟩ with q | q | q | q | q | q <;> rw [q] at hsa ⊢
      · exact own_fin_4_0 _ _ _ _ _ _ rfl rfl rfl rfl rfl
      · exact own_fin_4_1 _ _ _ _ _ _ rfl rfl rfl rfl rfl
      · exact own_fin_4_2 _ _ _ _ _ _ rfl rfl rfl rfl rfl
      · exact own_fin_4_3 _ _ _ _ _ _ rfl rfl rfl rfl rfl
      · exact own_fin_4_4 _ _ _ _ _ _ rfl rfl rfl rfl rfl
      · exact absurd hsa.2 (by decide)
    obtain ⟨fs, hr, hrun, hended, hW, hsame⟩ := X320.leave (v := some (.int (1 : Int32))) (fun h => by rw [Bd.returns] at h; cases h)
    have KF := K322
    rw [hG] at KF
    refine ⟨_, _, KF _ ?_, hrun, hended, _, _, rfl, ?_, ⟨_, rfl⟩, hW, hsame.mono (by decide) (by decide)⟩
    · show Steps p.tables e below (T320.setTop (mkF m 233 #[.val (.int p1), .val (.int p2), .val (.int p3), .val (.int p4), .val (.int p5), .val (.int p6), .val (.int (4 : Int32)), .val (.int sa), .val (.int cp), .val (.ref b8), .val (.ref b57), .val (.int (((((own_con (0 : Int32) sa (4 : Int32) 0 (nar .char r13)) + (own_con (1 : Int32) sa (4 : Int32) (nar .char r13) (nar .char r22))) + (own_con (2 : Int32) sa (4 : Int32) (nar .char r22) (nar .char r31))) + (own_con (3 : Int32) sa (4 : Int32) (nar .char r31) (nar .char r40))) + (own_con (4 : Int32) sa (4 : Int32) (nar .char r40) (nar .char r49))))] [(.int (((4 : Int32) - sa) - own_pr (fun j => ([(nar .char r13), (nar .char r22), (nar .char r31), (nar .char r40), (nar .char r49)] : List Int32).getD j 0) ((4 : Int32) - sa).toNatClampNeg sa.toNatClampNeg))])) _
      refine XS.iload X320.here hx rfl (hb hby at_233) rfl ?_
      show Steps p.tables e below (T320.setTop (mkF m 235 #[.val (.int p1), .val (.int p2), .val (.int p3), .val (.int p4), .val (.int p5), .val (.int p6), .val (.int (4 : Int32)), .val (.int sa), .val (.int cp), .val (.ref b8), .val (.ref b57), .val (.int (((((own_con (0 : Int32) sa (4 : Int32) 0 (nar .char r13)) + (own_con (1 : Int32) sa (4 : Int32) (nar .char r13) (nar .char r22))) + (own_con (2 : Int32) sa (4 : Int32) (nar .char r22) (nar .char r31))) + (own_con (3 : Int32) sa (4 : Int32) (nar .char r31) (nar .char r40))) + (own_con (4 : Int32) sa (4 : Int32) (nar .char r40) (nar .char r49))))] [(.int (((((own_con (0 : Int32) sa (4 : Int32) 0 (nar .char r13)) + (own_con (1 : Int32) sa (4 : Int32) (nar .char r13) (nar .char r22))) + (own_con (2 : Int32) sa (4 : Int32) (nar .char r22) (nar .char r31))) + (own_con (3 : Int32) sa (4 : Int32) (nar .char r31) (nar .char r40))) + (own_con (4 : Int32) sa (4 : Int32) (nar .char r40) (nar .char r49)))), (.int (((4 : Int32) - sa) - own_pr (fun j => ([(nar .char r13), (nar .char r22), (nar .char r31), (nar .char r40), (nar .char r49)] : List Int32).getD j 0) ((4 : Int32) - sa).toNatClampNeg sa.toNatClampNeg))])) _
      refine XS.icmpNo X320.here hx rfl (hb hby at_235) rfl (teq hfin).2 ?_
      show Steps p.tables e below (T320.setTop (mkF m 238 #[.val (.int p1), .val (.int p2), .val (.int p3), .val (.int p4), .val (.int p5), .val (.int p6), .val (.int (4 : Int32)), .val (.int sa), .val (.int cp), .val (.ref b8), .val (.ref b57), .val (.int (((((own_con (0 : Int32) sa (4 : Int32) 0 (nar .char r13)) + (own_con (1 : Int32) sa (4 : Int32) (nar .char r13) (nar .char r22))) + (own_con (2 : Int32) sa (4 : Int32) (nar .char r22) (nar .char r31))) + (own_con (3 : Int32) sa (4 : Int32) (nar .char r31) (nar .char r40))) + (own_con (4 : Int32) sa (4 : Int32) (nar .char r40) (nar .char r49))))] [])) _
      refine XS.iconst X320.here hx rfl (hb hby at_238) ?_
      show Steps p.tables e below (T320.setTop (mkF m 239 #[.val (.int p1), .val (.int p2), .val (.int p3), .val (.int p4), .val (.int p5), .val (.int p6), .val (.int (4 : Int32)), .val (.int sa), .val (.int cp), .val (.ref b8), .val (.ref b57), .val (.int (((((own_con (0 : Int32) sa (4 : Int32) 0 (nar .char r13)) + (own_con (1 : Int32) sa (4 : Int32) (nar .char r13) (nar .char r22))) + (own_con (2 : Int32) sa (4 : Int32) (nar .char r22) (nar .char r31))) + (own_con (3 : Int32) sa (4 : Int32) (nar .char r31) (nar .char r40))) + (own_con (4 : Int32) sa (4 : Int32) (nar .char r40) (nar .char r49))))] [(.int (1 : Int32))])) _
      refine XS.goto X320.here hx rfl (pc0 := 239) (pc' := 243) rfl (hb hby at_239) (by decide) (by decide) ?_
      show Steps p.tables e below (T320.setTop (mkF m 243 #[.val (.int p1), .val (.int p2), .val (.int p3), .val (.int p4), .val (.int p5), .val (.int p6), .val (.int (4 : Int32)), .val (.int sa), .val (.int cp), .val (.ref b8), .val (.ref b57), .val (.int (((((own_con (0 : Int32) sa (4 : Int32) 0 (nar .char r13)) + (own_con (1 : Int32) sa (4 : Int32) (nar .char r13) (nar .char r22))) + (own_con (2 : Int32) sa (4 : Int32) (nar .char r22) (nar .char r31))) + (own_con (3 : Int32) sa (4 : Int32) (nar .char r31) (nar .char r40))) + (own_con (4 : Int32) sa (4 : Int32) (nar .char r40) (nar .char r49))))] [(.int (1 : Int32))])) _
      exact retN X320 hx (t := .boolean) Bd.returns (by simp) (hb hby at_243) hr
    · show Q0 n0 _ T320.heap _
      rw [e320]
      exact ⟨rfl, N321⟩
  · have K323 : ∀ t, Steps p.tables e below (T65.setTop (mkF m 101 #[.val (.int p1), .val (.int p2), .val (.int p3), .val (.int p4), .val (.int p5), .val (.int p6), .val (.int (5 : Int32)), .val (.int sa), .val (.int cp), .val (.ref b8), .val (.ref b57), .unset] [(.int (0 : Int32)), (.ref b8), (.ref b57)])) t → Steps p.tables e below G t := by
      intro t k
      refine K72 t ?_
      show Steps p.tables e below (T65.setTop (mkF m 91 #[.val (.int p1), .val (.int p2), .val (.int p3), .val (.int p4), .val (.int p5), .val (.int p6), .val (.int (5 : Int32)), .val (.int sa), .val (.int cp), .val (.ref b8), .val (.ref b57), .unset] [])) _
      refine XS.iload X65.here hx rfl (hb hby at_91) rfl ?_
      show Steps p.tables e below (T65.setTop (mkF m 93 #[.val (.int p1), .val (.int p2), .val (.int p3), .val (.int p4), .val (.int p5), .val (.int p6), .val (.int (5 : Int32)), .val (.int sa), .val (.int cp), .val (.ref b8), .val (.ref b57), .unset] [(.int (5 : Int32))])) _
      refine XS.ifNo X65.here hx rfl (hb hby at_93) rfl ((if0 _ _).trans (tlt (by decide)).2.2.2) ?_
      show Steps p.tables e below (T65.setTop (mkF m 96 #[.val (.int p1), .val (.int p2), .val (.int p3), .val (.int p4), .val (.int p5), .val (.int p6), .val (.int (5 : Int32)), .val (.int sa), .val (.int cp), .val (.ref b8), .val (.ref b57), .unset] [])) _
      refine XS.aload X65.here hx rfl (hb hby at_96) rfl rfl ?_
      show Steps p.tables e below (T65.setTop (mkF m 98 #[.val (.int p1), .val (.int p2), .val (.int p3), .val (.int p4), .val (.int p5), .val (.int p6), .val (.int (5 : Int32)), .val (.int sa), .val (.int cp), .val (.ref b8), .val (.ref b57), .unset] [(.ref b57)])) _
      refine XS.aload X65.here hx rfl (hb hby at_98) rfl rfl ?_
      show Steps p.tables e below (T65.setTop (mkF m 100 #[.val (.int p1), .val (.int p2), .val (.int p3), .val (.int p4), .val (.int p5), .val (.int p6), .val (.int (5 : Int32)), .val (.int sa), .val (.int cp), .val (.ref b8), .val (.ref b57), .unset] [(.ref b8), (.ref b57)])) _
      refine XS.iconst X65.here hx rfl (hb hby at_100) ?_
      show Steps p.tables e below (T65.setTop (mkF m 101 #[.val (.int p1), .val (.int p2), .val (.int p3), .val (.int p4), .val (.int p5), .val (.int p6), .val (.int (5 : Int32)), .val (.int sa), .val (.int cp), .val (.ref b8), .val (.ref b57), .unset] [(.int (0 : Int32)), (.ref b8), (.ref b57)])) _
      exact k
    obtain ⟨cl324, Ar324, qc324, S324, M324, Ha324, Ga324⟩ := id f67
    have hin324 : ¬ ((0 : Int32) < 0 ∨ cl324.slots.size ≤ ((0 : Int32)).toNatClampNeg) := inb_of S324 ⟨by decide, by decide⟩
    have hat324 : cl324.slots[((0 : Int32)).toNatClampNeg]? = some (.int (nar .char r13)) := Ha324.at hin324 rfl
    have K325 : ∀ t, Steps p.tables e below (T65.setTop (mkF m 102 #[.val (.int p1), .val (.int p2), .val (.int p3), .val (.int p4), .val (.int p5), .val (.int p6), .val (.int (5 : Int32)), .val (.int sa), .val (.int cp), .val (.ref b8), .val (.ref b57), .unset] [(.int (nar .char r13)), (.ref b57)])) t → Steps p.tables e below G t := fun t k => K323 t (X65.caload hx (j := (0 : Int32)) (v := (.int (nar .char r13))) Ar324.1 (State.isArrayOf_alike hZ.alike Ar324.2.1) Ar324.2.2 hin324 hat324 (g := (mkF m 101 #[.val (.int p1), .val (.int p2), .val (.int p3), .val (.int p4), .val (.int p5), .val (.int p6), .val (.int (5 : Int32)), .val (.int sa), .val (.int cp), .val (.ref b8), .val (.ref b57), .unset] [(.int (0 : Int32)), (.ref b8), (.ref b57)])) rfl rfl (hb hby at_101) _ k)
    obtain ⟨cq326, kq326, q326a, q326b, q326c⟩ := isOf hZ rfl E65'
    obtain ⟨_, _, ⟨T326, L326, kk326, nn326⟩, -, X326, ⟨Lc326, hQ326, lq326, yq326, zq326⟩, st326⟩ := X65.virtualBack hx (y := (⟨"org/arborlog/pattern/LineText", "append", "(C)Lorg/arborlog/pattern/LineText;"⟩ : MethodName)) (z := (⟨"org/arborlog/pattern/LineText", "append", "(C)Lorg/arborlog/pattern/LineText;"⟩ : MethodName)) hown (mvT hZ (hw _ (List.mem_of_getElem? (i := 19) rfl))) (mvT hZ (hw _ (List.mem_of_getElem? (i := 20) rfl))) (notFace_of_selects (args := #[]) (mvT hZ (hw _ (List.mem_of_getElem? (i := 22) rfl)))) (mvT hZ (hw _ (List.mem_of_getElem? (i := 22) rfl))) (mvT hZ (hw _ (List.mem_of_getElem? (i := 21) rfl))) (by decide) (backOf (W := 0) (rm4 l Z a0 hw [] b57 (nar .char r13) b65 kb65 cp (0 : Int32) [] T65.heap n0 Z69 E65' Fc65 Fl65 Vb65 ne_b57_b65 g_b57 g_b65 ⟨by decide, by decide⟩ hc7.1 hc7.2.2) hZ (hw _ (List.mem_of_getElem? (i := 23) rfl)) (hw _ (List.mem_of_getElem? (i := 10) rfl)) (by decide) (by decide)) q326a q326c (g := (mkF m 102 #[.val (.int p1), .val (.int p2), .val (.int p3), .val (.int p4), .val (.int p5), .val (.int p6), .val (.int (5 : Int32)), .val (.int sa), .val (.int cp), .val (.ref b8), .val (.ref b57), .unset] [(.int (nar .char r13)), (.ref b57)])) rfl (by rw [hml]; rfl) (Steps.refl _) (argsL := [(.int (nar .char r13))]) (rest := []) (lenOf pd_10 rfl) rfl (by show 2 * 0 + _ ≤ _; exact Nat.le_of_eq rfl) (hb hby at_102) (fun _ _ => ⟨rfl, rfl, (by decide : 3 + 1 ≤ _), (by decide : 15 + 10 ≤ _)⟩)
    dsimp only [Pt.U, Pt.locs, Pt.cells, Pt.slots] at X326 lq326 yq326 zq326 st326 hQ326
    subst lq326 yq326 zq326
    obtain ⟨b326, kb326, zb326, vs326, rfl, Nq326, K326, ob326, E326', Fc326, Fl326, Vb326, hz326, hc326, hd326⟩ := hQ326
    have N327 := Fr.app N66 Nq326
    have gb326 : n0 ≤ b326 := ob326.elim (fun q => q ▸ g_b65) (fun q => Nat.le_trans Z69 q)
    have sz326 : h0.size ≤ b326 := ob326.elim (fun q => q ▸ sz_b65) (fun q => Nat.le_trans KP70.1 q)
    have ne_b8_b326 : b8 ≠ b326 := ob326.elim (fun q => q ▸ ne_b8_b65) (fun q => Nat.ne_of_lt (Nat.lt_of_lt_of_le f67.lt q))
    have ne_b57_b326 : b57 ≠ b326 := ob326.elim (fun q => q ▸ ne_b57_b65) (fun q => Nat.ne_of_lt (Nat.lt_of_lt_of_le E65'.lt q))
    have f328 := f67.keep K326 (ninS ne_b8_b57 (ninS ne_b8_b65 nin0))
    have f329 := E65'.keep K326
    have Z330 : n0 ≤ T326.heap.size := Nat.le_trans Z69 K326.1
    have KP331 : Keep h0 T326.heap [] := KP70.trans K326 (allS (Or.inr sz_b57) (allS (Or.inr sz_b65) all0))
    have f332 : Fld Z T326.heap b57 "org/arborlog/pattern/LineText" "length" "I" (.int (1 : Int32)) := Fl326
    have ct333 : vs326.getD 0 (Value.int (0 : Int32)) = .int (nar .char (nar .char r13)) := hd326
    have K334 : ∀ t, Steps p.tables e below (T326.setTop (mkF m 105 #[.val (.int p1), .val (.int p2), .val (.int p3), .val (.int p4), .val (.int p5), .val (.int p6), .val (.int (5 : Int32)), .val (.int sa), .val (.int cp), .val (.ref b8), .val (.ref b57), .unset] [(.ref b57)])) t → Steps p.tables e below G t := fun t k => K325 t (st326.trans k)
    have K335 : ∀ t, Steps p.tables e below (T326.setTop (mkF m 117 #[.val (.int p1), .val (.int p2), .val (.int p3), .val (.int p4), .val (.int p5), .val (.int p6), .val (.int (5 : Int32)), .val (.int sa), .val (.int cp), .val (.ref b8), .val (.ref b57), .unset] [(.int (1 : Int32)), (.ref b8), (.ref b57)])) t → Steps p.tables e below G t := by
      intro t k
      refine K334 t ?_
      show Steps p.tables e below (T326.setTop (mkF m 105 #[.val (.int p1), .val (.int p2), .val (.int p3), .val (.int p4), .val (.int p5), .val (.int p6), .val (.int (5 : Int32)), .val (.int sa), .val (.int cp), .val (.ref b8), .val (.ref b57), .unset] [(.ref b57)])) _
      refine XS.pop X326.here hx rfl (hb hby at_105) rfl rfl ?_
      show Steps p.tables e below (T326.setTop (mkF m 106 #[.val (.int p1), .val (.int p2), .val (.int p3), .val (.int p4), .val (.int p5), .val (.int p6), .val (.int (5 : Int32)), .val (.int sa), .val (.int cp), .val (.ref b8), .val (.ref b57), .unset] [])) _
      refine XS.iload X326.here hx rfl (hb hby at_106) rfl ?_
      show Steps p.tables e below (T326.setTop (mkF m 108 #[.val (.int p1), .val (.int p2), .val (.int p3), .val (.int p4), .val (.int p5), .val (.int p6), .val (.int (5 : Int32)), .val (.int sa), .val (.int cp), .val (.ref b8), .val (.ref b57), .unset] [(.int (5 : Int32))])) _
      refine XS.iconst X326.here hx rfl (hb hby at_108) ?_
      show Steps p.tables e below (T326.setTop (mkF m 109 #[.val (.int p1), .val (.int p2), .val (.int p3), .val (.int p4), .val (.int p5), .val (.int p6), .val (.int (5 : Int32)), .val (.int sa), .val (.int cp), .val (.ref b8), .val (.ref b57), .unset] [(.int (1 : Int32)), (.int (5 : Int32))])) _
      refine XS.icmpNo X326.here hx rfl (hb hby at_109) rfl (tlt (by decide)).2.2.2 ?_
      show Steps p.tables e below (T326.setTop (mkF m 112 #[.val (.int p1), .val (.int p2), .val (.int p3), .val (.int p4), .val (.int p5), .val (.int p6), .val (.int (5 : Int32)), .val (.int sa), .val (.int cp), .val (.ref b8), .val (.ref b57), .unset] [])) _
      refine XS.aload X326.here hx rfl (hb hby at_112) rfl rfl ?_
      show Steps p.tables e below (T326.setTop (mkF m 114 #[.val (.int p1), .val (.int p2), .val (.int p3), .val (.int p4), .val (.int p5), .val (.int p6), .val (.int (5 : Int32)), .val (.int sa), .val (.int cp), .val (.ref b8), .val (.ref b57), .unset] [(.ref b57)])) _
      refine XS.aload X326.here hx rfl (hb hby at_114) rfl rfl ?_
      show Steps p.tables e below (T326.setTop (mkF m 116 #[.val (.int p1), .val (.int p2), .val (.int p3), .val (.int p4), .val (.int p5), .val (.int p6), .val (.int (5 : Int32)), .val (.int sa), .val (.int cp), .val (.ref b8), .val (.ref b57), .unset] [(.ref b8), (.ref b57)])) _
      refine XS.iconst X326.here hx rfl (hb hby at_116) ?_
      show Steps p.tables e below (T326.setTop (mkF m 117 #[.val (.int p1), .val (.int p2), .val (.int p3), .val (.int p4), .val (.int p5), .val (.int p6), .val (.int (5 : Int32)), .val (.int sa), .val (.int cp), .val (.ref b8), .val (.ref b57), .unset] [(.int (1 : Int32)), (.ref b8), (.ref b57)])) _
      exact k
    obtain ⟨cl336, Ar336, qc336, S336, M336, Ha336, Ga336⟩ := id f328
    have hin336 : ¬ ((1 : Int32) < 0 ∨ cl336.slots.size ≤ ((1 : Int32)).toNatClampNeg) := inb_of S336 ⟨by decide, by decide⟩
    have hat336 : cl336.slots[((1 : Int32)).toNatClampNeg]? = some (.int (nar .char r22)) := Ha336.at hin336 rfl
    have K337 : ∀ t, Steps p.tables e below (T326.setTop (mkF m 118 #[.val (.int p1), .val (.int p2), .val (.int p3), .val (.int p4), .val (.int p5), .val (.int p6), .val (.int (5 : Int32)), .val (.int sa), .val (.int cp), .val (.ref b8), .val (.ref b57), .unset] [(.int (nar .char r22)), (.ref b57)])) t → Steps p.tables e below G t := fun t k => K335 t (X326.caload hx (j := (1 : Int32)) (v := (.int (nar .char r22))) Ar336.1 (State.isArrayOf_alike hZ.alike Ar336.2.1) Ar336.2.2 hin336 hat336 (g := (mkF m 117 #[.val (.int p1), .val (.int p2), .val (.int p3), .val (.int p4), .val (.int p5), .val (.int p6), .val (.int (5 : Int32)), .val (.int sa), .val (.int cp), .val (.ref b8), .val (.ref b57), .unset] [(.int (1 : Int32)), (.ref b8), (.ref b57)])) rfl rfl (hb hby at_117) _ k)
    obtain ⟨cq338, kq338, q338a, q338b, q338c⟩ := isOf hZ rfl E326'
    obtain ⟨_, _, ⟨T338, L338, kk338, nn338⟩, -, X338, ⟨Lc338, hQ338, lq338, yq338, zq338⟩, st338⟩ := X326.virtualBack hx (y := (⟨"org/arborlog/pattern/LineText", "append", "(C)Lorg/arborlog/pattern/LineText;"⟩ : MethodName)) (z := (⟨"org/arborlog/pattern/LineText", "append", "(C)Lorg/arborlog/pattern/LineText;"⟩ : MethodName)) hown (mvT hZ (hw _ (List.mem_of_getElem? (i := 19) rfl))) (mvT hZ (hw _ (List.mem_of_getElem? (i := 20) rfl))) (notFace_of_selects (args := #[]) (mvT hZ (hw _ (List.mem_of_getElem? (i := 22) rfl)))) (mvT hZ (hw _ (List.mem_of_getElem? (i := 22) rfl))) (mvT hZ (hw _ (List.mem_of_getElem? (i := 21) rfl))) (by decide) (backOf (W := 0) (rm4 l Z a0 hw [] b57 (nar .char r22) b326 kb326 zb326 (1 : Int32) vs326 T326.heap n0 Z330 E326' Fc326 f332 Vb326 ne_b57_b326 g_b57 gb326 ⟨by decide, by decide⟩ hz326.1 hz326.2) hZ (hw _ (List.mem_of_getElem? (i := 23) rfl)) (hw _ (List.mem_of_getElem? (i := 10) rfl)) (by decide) (by decide)) q338a q338c (g := (mkF m 118 #[.val (.int p1), .val (.int p2), .val (.int p3), .val (.int p4), .val (.int p5), .val (.int p6), .val (.int (5 : Int32)), .val (.int sa), .val (.int cp), .val (.ref b8), .val (.ref b57), .unset] [(.int (nar .char r22)), (.ref b57)])) rfl (by rw [hml]; rfl) (Steps.refl _) (argsL := [(.int (nar .char r22))]) (rest := []) (lenOf pd_10 rfl) rfl (by show 2 * 0 + _ ≤ _; exact Nat.le_of_eq rfl) (hb hby at_118) (fun _ _ => ⟨rfl, rfl, (by decide : 4 + 1 ≤ _), (by decide : 25 + 10 ≤ _)⟩)
    dsimp only [Pt.U, Pt.locs, Pt.cells, Pt.slots] at X338 lq338 yq338 zq338 st338 hQ338
    subst lq338 yq338 zq338
    obtain ⟨b338, kb338, zb338, vs338, rfl, Nq338, K338, ob338, E338', Fc338, Fl338, Vb338, hz338, hc338, hd338⟩ := hQ338
    have N339 := Fr.app N327 Nq338
    have gb338 : n0 ≤ b338 := ob338.elim (fun q => q ▸ gb326) (fun q => Nat.le_trans Z330 q)
    have sz338 : h0.size ≤ b338 := ob338.elim (fun q => q ▸ sz326) (fun q => Nat.le_trans KP331.1 q)
    have ne_b8_b338 : b8 ≠ b338 := ob338.elim (fun q => q ▸ ne_b8_b326) (fun q => Nat.ne_of_lt (Nat.lt_of_lt_of_le f328.lt q))
    have ne_b57_b338 : b57 ≠ b338 := ob338.elim (fun q => q ▸ ne_b57_b326) (fun q => Nat.ne_of_lt (Nat.lt_of_lt_of_le E326'.lt q))
    have f340 := f328.keep K338 (ninS ne_b8_b57 (ninS ne_b8_b326 nin0))
    have f341 := E326'.keep K338
    have Z342 : n0 ≤ T338.heap.size := Nat.le_trans Z330 K338.1
    have KP343 : Keep h0 T338.heap [] := KP331.trans K338 (allS (Or.inr sz_b57) (allS (Or.inr sz326) all0))
    have f344 : Fld Z T338.heap b57 "org/arborlog/pattern/LineText" "length" "I" (.int (2 : Int32)) := Fl338
    have ct345 : vs338.getD 0 (Value.int (0 : Int32)) = .int (nar .char (nar .char r13)) := (hc338 0 (by decide)).trans ct333
    have ct346 : vs338.getD 1 (Value.int (0 : Int32)) = .int (nar .char (nar .char r22)) := hd338
    have K347 : ∀ t, Steps p.tables e below (T338.setTop (mkF m 121 #[.val (.int p1), .val (.int p2), .val (.int p3), .val (.int p4), .val (.int p5), .val (.int p6), .val (.int (5 : Int32)), .val (.int sa), .val (.int cp), .val (.ref b8), .val (.ref b57), .unset] [(.ref b57)])) t → Steps p.tables e below G t := fun t k => K337 t (st338.trans k)
    have K348 : ∀ t, Steps p.tables e below (T338.setTop (mkF m 133 #[.val (.int p1), .val (.int p2), .val (.int p3), .val (.int p4), .val (.int p5), .val (.int p6), .val (.int (5 : Int32)), .val (.int sa), .val (.int cp), .val (.ref b8), .val (.ref b57), .unset] [(.int (2 : Int32)), (.ref b8), (.ref b57)])) t → Steps p.tables e below G t := by
      intro t k
      refine K347 t ?_
      show Steps p.tables e below (T338.setTop (mkF m 121 #[.val (.int p1), .val (.int p2), .val (.int p3), .val (.int p4), .val (.int p5), .val (.int p6), .val (.int (5 : Int32)), .val (.int sa), .val (.int cp), .val (.ref b8), .val (.ref b57), .unset] [(.ref b57)])) _
      refine XS.pop X338.here hx rfl (hb hby at_121) rfl rfl ?_
      show Steps p.tables e below (T338.setTop (mkF m 122 #[.val (.int p1), .val (.int p2), .val (.int p3), .val (.int p4), .val (.int p5), .val (.int p6), .val (.int (5 : Int32)), .val (.int sa), .val (.int cp), .val (.ref b8), .val (.ref b57), .unset] [])) _
      refine XS.iload X338.here hx rfl (hb hby at_122) rfl ?_
      show Steps p.tables e below (T338.setTop (mkF m 124 #[.val (.int p1), .val (.int p2), .val (.int p3), .val (.int p4), .val (.int p5), .val (.int p6), .val (.int (5 : Int32)), .val (.int sa), .val (.int cp), .val (.ref b8), .val (.ref b57), .unset] [(.int (5 : Int32))])) _
      refine XS.iconst X338.here hx rfl (hb hby at_124) ?_
      show Steps p.tables e below (T338.setTop (mkF m 125 #[.val (.int p1), .val (.int p2), .val (.int p3), .val (.int p4), .val (.int p5), .val (.int p6), .val (.int (5 : Int32)), .val (.int sa), .val (.int cp), .val (.ref b8), .val (.ref b57), .unset] [(.int (2 : Int32)), (.int (5 : Int32))])) _
      refine XS.icmpNo X338.here hx rfl (hb hby at_125) rfl (tlt (by decide)).2.2.2 ?_
      show Steps p.tables e below (T338.setTop (mkF m 128 #[.val (.int p1), .val (.int p2), .val (.int p3), .val (.int p4), .val (.int p5), .val (.int p6), .val (.int (5 : Int32)), .val (.int sa), .val (.int cp), .val (.ref b8), .val (.ref b57), .unset] [])) _
      refine XS.aload X338.here hx rfl (hb hby at_128) rfl rfl ?_
      show Steps p.tables e below (T338.setTop (mkF m 130 #[.val (.int p1), .val (.int p2), .val (.int p3), .val (.int p4), .val (.int p5), .val (.int p6), .val (.int (5 : Int32)), .val (.int sa), .val (.int cp), .val (.ref b8), .val (.ref b57), .unset] [(.ref b57)])) _
      refine XS.aload X338.here hx rfl (hb hby at_130) rfl rfl ?_
      show Steps p.tables e below (T338.setTop (mkF m 132 #[.val (.int p1), .val (.int p2), .val (.int p3), .val (.int p4), .val (.int p5), .val (.int p6), .val (.int (5 : Int32)), .val (.int sa), .val (.int cp), .val (.ref b8), .val (.ref b57), .unset] [(.ref b8), (.ref b57)])) _
      refine XS.iconst X338.here hx rfl (hb hby at_132) ?_
      show Steps p.tables e below (T338.setTop (mkF m 133 #[.val (.int p1), .val (.int p2), .val (.int p3), .val (.int p4), .val (.int p5), .val (.int p6), .val (.int (5 : Int32)), .val (.int sa), .val (.int cp), .val (.ref b8), .val (.ref b57), .unset] [(.int (2 : Int32)), (.ref b8), (.ref b57)])) _
      exact k
    obtain ⟨cl349, Ar349, qc349, S349, M349, Ha349, Ga349⟩ := id f340
    have hin349 : ¬ ((2 : Int32) < 0 ∨ cl349.slots.size ≤ ((2 : Int32)).toNatClampNeg) := inb_of S349 ⟨by decide, by decide⟩
    have hat349 : cl349.slots[((2 : Int32)).toNatClampNeg]? = some (.int (nar .char r31)) := Ha349.at hin349 rfl
    have K350 : ∀ t, Steps p.tables e below (T338.setTop (mkF m 134 #[.val (.int p1), .val (.int p2), .val (.int p3), .val (.int p4), .val (.int p5), .val (.int p6), .val (.int (5 : Int32)), .val (.int sa), .val (.int cp), .val (.ref b8), .val (.ref b57), .unset] [(.int (nar .char r31)), (.ref b57)])) t → Steps p.tables e below G t := fun t k => K348 t (X338.caload hx (j := (2 : Int32)) (v := (.int (nar .char r31))) Ar349.1 (State.isArrayOf_alike hZ.alike Ar349.2.1) Ar349.2.2 hin349 hat349 (g := (mkF m 133 #[.val (.int p1), .val (.int p2), .val (.int p3), .val (.int p4), .val (.int p5), .val (.int p6), .val (.int (5 : Int32)), .val (.int sa), .val (.int cp), .val (.ref b8), .val (.ref b57), .unset] [(.int (2 : Int32)), (.ref b8), (.ref b57)])) rfl rfl (hb hby at_133) _ k)
    obtain ⟨cq351, kq351, q351a, q351b, q351c⟩ := isOf hZ rfl E338'
    obtain ⟨_, _, ⟨T351, L351, kk351, nn351⟩, -, X351, ⟨Lc351, hQ351, lq351, yq351, zq351⟩, st351⟩ := X338.virtualBack hx (y := (⟨"org/arborlog/pattern/LineText", "append", "(C)Lorg/arborlog/pattern/LineText;"⟩ : MethodName)) (z := (⟨"org/arborlog/pattern/LineText", "append", "(C)Lorg/arborlog/pattern/LineText;"⟩ : MethodName)) hown (mvT hZ (hw _ (List.mem_of_getElem? (i := 19) rfl))) (mvT hZ (hw _ (List.mem_of_getElem? (i := 20) rfl))) (notFace_of_selects (args := #[]) (mvT hZ (hw _ (List.mem_of_getElem? (i := 22) rfl)))) (mvT hZ (hw _ (List.mem_of_getElem? (i := 22) rfl))) (mvT hZ (hw _ (List.mem_of_getElem? (i := 21) rfl))) (by decide) (backOf (W := 0) (rm4 l Z a0 hw [] b57 (nar .char r31) b338 kb338 zb338 (2 : Int32) vs338 T338.heap n0 Z342 E338' Fc338 f344 Vb338 ne_b57_b338 g_b57 gb338 ⟨by decide, by decide⟩ hz338.1 hz338.2) hZ (hw _ (List.mem_of_getElem? (i := 23) rfl)) (hw _ (List.mem_of_getElem? (i := 10) rfl)) (by decide) (by decide)) q351a q351c (g := (mkF m 134 #[.val (.int p1), .val (.int p2), .val (.int p3), .val (.int p4), .val (.int p5), .val (.int p6), .val (.int (5 : Int32)), .val (.int sa), .val (.int cp), .val (.ref b8), .val (.ref b57), .unset] [(.int (nar .char r31)), (.ref b57)])) rfl (by rw [hml]; rfl) (Steps.refl _) (argsL := [(.int (nar .char r31))]) (rest := []) (lenOf pd_10 rfl) rfl (by show 2 * 0 + _ ≤ _; exact Nat.le_of_eq rfl) (hb hby at_134) (fun _ _ => ⟨rfl, rfl, (by decide : 5 + 1 ≤ _), (by decide : 35 + 10 ≤ _)⟩)
    dsimp only [Pt.U, Pt.locs, Pt.cells, Pt.slots] at X351 lq351 yq351 zq351 st351 hQ351
    subst lq351 yq351 zq351
    obtain ⟨b351, kb351, zb351, vs351, rfl, Nq351, K351, ob351, E351', Fc351, Fl351, Vb351, hz351, hc351, hd351⟩ := hQ351
    have N352 := Fr.app N339 Nq351
    have gb351 : n0 ≤ b351 := ob351.elim (fun q => q ▸ gb338) (fun q => Nat.le_trans Z342 q)
    have sz351 : h0.size ≤ b351 := ob351.elim (fun q => q ▸ sz338) (fun q => Nat.le_trans KP343.1 q)
    have ne_b8_b351 : b8 ≠ b351 := ob351.elim (fun q => q ▸ ne_b8_b338) (fun q => Nat.ne_of_lt (Nat.lt_of_lt_of_le f340.lt q))
    have ne_b57_b351 : b57 ≠ b351 := ob351.elim (fun q => q ▸ ne_b57_b338) (fun q => Nat.ne_of_lt (Nat.lt_of_lt_of_le E338'.lt q))
    have f353 := f340.keep K351 (ninS ne_b8_b57 (ninS ne_b8_b338 nin0))
    have f354 := E338'.keep K351
    have Z355 : n0 ≤ T351.heap.size := Nat.le_trans Z342 K351.1
    have KP356 : Keep h0 T351.heap [] := KP343.trans K351 (allS (Or.inr sz_b57) (allS (Or.inr sz338) all0))
    have f357 : Fld Z T351.heap b57 "org/arborlog/pattern/LineText" "length" "I" (.int (3 : Int32)) := Fl351
    have ct358 : vs351.getD 0 (Value.int (0 : Int32)) = .int (nar .char (nar .char r13)) := (hc351 0 (by decide)).trans ct345
    have ct359 : vs351.getD 1 (Value.int (0 : Int32)) = .int (nar .char (nar .char r22)) := (hc351 1 (by decide)).trans ct346
    have ct360 : vs351.getD 2 (Value.int (0 : Int32)) = .int (nar .char (nar .char r31)) := hd351
    have K361 : ∀ t, Steps p.tables e below (T351.setTop (mkF m 137 #[.val (.int p1), .val (.int p2), .val (.int p3), .val (.int p4), .val (.int p5), .val (.int p6), .val (.int (5 : Int32)), .val (.int sa), .val (.int cp), .val (.ref b8), .val (.ref b57), .unset] [(.ref b57)])) t → Steps p.tables e below G t := fun t k => K350 t (st351.trans k)
    have K362 : ∀ t, Steps p.tables e below (T351.setTop (mkF m 149 #[.val (.int p1), .val (.int p2), .val (.int p3), .val (.int p4), .val (.int p5), .val (.int p6), .val (.int (5 : Int32)), .val (.int sa), .val (.int cp), .val (.ref b8), .val (.ref b57), .unset] [(.int (3 : Int32)), (.ref b8), (.ref b57)])) t → Steps p.tables e below G t := by
      intro t k
      refine K361 t ?_
      show Steps p.tables e below (T351.setTop (mkF m 137 #[.val (.int p1), .val (.int p2), .val (.int p3), .val (.int p4), .val (.int p5), .val (.int p6), .val (.int (5 : Int32)), .val (.int sa), .val (.int cp), .val (.ref b8), .val (.ref b57), .unset] [(.ref b57)])) _
      refine XS.pop X351.here hx rfl (hb hby at_137) rfl rfl ?_
      show Steps p.tables e below (T351.setTop (mkF m 138 #[.val (.int p1), .val (.int p2), .val (.int p3), .val (.int p4), .val (.int p5), .val (.int p6), .val (.int (5 : Int32)), .val (.int sa), .val (.int cp), .val (.ref b8), .val (.ref b57), .unset] [])) _
      refine XS.iload X351.here hx rfl (hb hby at_138) rfl ?_
      show Steps p.tables e below (T351.setTop (mkF m 140 #[.val (.int p1), .val (.int p2), .val (.int p3), .val (.int p4), .val (.int p5), .val (.int p6), .val (.int (5 : Int32)), .val (.int sa), .val (.int cp), .val (.ref b8), .val (.ref b57), .unset] [(.int (5 : Int32))])) _
      refine XS.iconst X351.here hx rfl (hb hby at_140) ?_
      show Steps p.tables e below (T351.setTop (mkF m 141 #[.val (.int p1), .val (.int p2), .val (.int p3), .val (.int p4), .val (.int p5), .val (.int p6), .val (.int (5 : Int32)), .val (.int sa), .val (.int cp), .val (.ref b8), .val (.ref b57), .unset] [(.int (3 : Int32)), (.int (5 : Int32))])) _
      refine XS.icmpNo X351.here hx rfl (hb hby at_141) rfl (tlt (by decide)).2.2.2 ?_
      show Steps p.tables e below (T351.setTop (mkF m 144 #[.val (.int p1), .val (.int p2), .val (.int p3), .val (.int p4), .val (.int p5), .val (.int p6), .val (.int (5 : Int32)), .val (.int sa), .val (.int cp), .val (.ref b8), .val (.ref b57), .unset] [])) _
      refine XS.aload X351.here hx rfl (hb hby at_144) rfl rfl ?_
      show Steps p.tables e below (T351.setTop (mkF m 146 #[.val (.int p1), .val (.int p2), .val (.int p3), .val (.int p4), .val (.int p5), .val (.int p6), .val (.int (5 : Int32)), .val (.int sa), .val (.int cp), .val (.ref b8), .val (.ref b57), .unset] [(.ref b57)])) _
      refine XS.aload X351.here hx rfl (hb hby at_146) rfl rfl ?_
      show Steps p.tables e below (T351.setTop (mkF m 148 #[.val (.int p1), .val (.int p2), .val (.int p3), .val (.int p4), .val (.int p5), .val (.int p6), .val (.int (5 : Int32)), .val (.int sa), .val (.int cp), .val (.ref b8), .val (.ref b57), .unset] [(.ref b8), (.ref b57)])) _
      refine XS.iconst X351.here hx rfl (hb hby at_148) ?_
      show Steps p.tables e below (T351.setTop (mkF m 149 #[.val (.int p1), .val (.int p2), .val (.int p3), .val (.int p4), .val (.int p5), .val (.int p6), .val (.int (5 : Int32)), .val (.int sa), .val (.int cp), .val (.ref b8), .val (.ref b57), .unset] [(.int (3 : Int32)), (.ref b8), (.ref b57)])) _
      exact k
    obtain ⟨cl363, Ar363, qc363, S363, M363, Ha363, Ga363⟩ := id f353
    have hin363 : ¬ ((3 : Int32) < 0 ∨ cl363.slots.size ≤ ((3 : Int32)).toNatClampNeg) := inb_of S363 ⟨by decide, by decide⟩
    have hat363 : cl363.slots[((3 : Int32)).toNatClampNeg]? = some (.int (nar .char r40)) := Ha363.at hin363 rfl
    have K364 : ∀ t, Steps p.tables e below (T351.setTop (mkF m 150 #[.val (.int p1), .val (.int p2), .val (.int p3), .val (.int p4), .val (.int p5), .val (.int p6), .val (.int (5 : Int32)), .val (.int sa), .val (.int cp), .val (.ref b8), .val (.ref b57), .unset] [(.int (nar .char r40)), (.ref b57)])) t → Steps p.tables e below G t := fun t k => K362 t (X351.caload hx (j := (3 : Int32)) (v := (.int (nar .char r40))) Ar363.1 (State.isArrayOf_alike hZ.alike Ar363.2.1) Ar363.2.2 hin363 hat363 (g := (mkF m 149 #[.val (.int p1), .val (.int p2), .val (.int p3), .val (.int p4), .val (.int p5), .val (.int p6), .val (.int (5 : Int32)), .val (.int sa), .val (.int cp), .val (.ref b8), .val (.ref b57), .unset] [(.int (3 : Int32)), (.ref b8), (.ref b57)])) rfl rfl (hb hby at_149) _ k)
    obtain ⟨cq365, kq365, q365a, q365b, q365c⟩ := isOf hZ rfl E351'
    obtain ⟨_, _, ⟨T365, L365, kk365, nn365⟩, -, X365, ⟨Lc365, hQ365, lq365, yq365, zq365⟩, st365⟩ := X351.virtualBack hx (y := (⟨"org/arborlog/pattern/LineText", "append", "(C)Lorg/arborlog/pattern/LineText;"⟩ : MethodName)) (z := (⟨"org/arborlog/pattern/LineText", "append", "(C)Lorg/arborlog/pattern/LineText;"⟩ : MethodName)) hown (mvT hZ (hw _ (List.mem_of_getElem? (i := 19) rfl))) (mvT hZ (hw _ (List.mem_of_getElem? (i := 20) rfl))) (notFace_of_selects (args := #[]) (mvT hZ (hw _ (List.mem_of_getElem? (i := 22) rfl)))) (mvT hZ (hw _ (List.mem_of_getElem? (i := 22) rfl))) (mvT hZ (hw _ (List.mem_of_getElem? (i := 21) rfl))) (by decide) (backOf (W := 0) (rm4 l Z a0 hw [] b57 (nar .char r40) b351 kb351 zb351 (3 : Int32) vs351 T351.heap n0 Z355 E351' Fc351 f357 Vb351 ne_b57_b351 g_b57 gb351 ⟨by decide, by decide⟩ hz351.1 hz351.2) hZ (hw _ (List.mem_of_getElem? (i := 23) rfl)) (hw _ (List.mem_of_getElem? (i := 10) rfl)) (by decide) (by decide)) q365a q365c (g := (mkF m 150 #[.val (.int p1), .val (.int p2), .val (.int p3), .val (.int p4), .val (.int p5), .val (.int p6), .val (.int (5 : Int32)), .val (.int sa), .val (.int cp), .val (.ref b8), .val (.ref b57), .unset] [(.int (nar .char r40)), (.ref b57)])) rfl (by rw [hml]; rfl) (Steps.refl _) (argsL := [(.int (nar .char r40))]) (rest := []) (lenOf pd_10 rfl) rfl (by show 2 * 0 + _ ≤ _; exact Nat.le_of_eq rfl) (hb hby at_150) (fun _ _ => ⟨rfl, rfl, (by decide : 6 + 1 ≤ _), (by decide : 45 + 10 ≤ _)⟩)
    dsimp only [Pt.U, Pt.locs, Pt.cells, Pt.slots] at X365 lq365 yq365 zq365 st365 hQ365
    subst lq365 yq365 zq365
    obtain ⟨b365, kb365, zb365, vs365, rfl, Nq365, K365, ob365, E365', Fc365, Fl365, Vb365, hz365, hc365, hd365⟩ := hQ365
    have N366 := Fr.app N352 Nq365
    have gb365 : n0 ≤ b365 := ob365.elim (fun q => q ▸ gb351) (fun q => Nat.le_trans Z355 q)
    have sz365 : h0.size ≤ b365 := ob365.elim (fun q => q ▸ sz351) (fun q => Nat.le_trans KP356.1 q)
    have ne_b8_b365 : b8 ≠ b365 := ob365.elim (fun q => q ▸ ne_b8_b351) (fun q => Nat.ne_of_lt (Nat.lt_of_lt_of_le f353.lt q))
    have ne_b57_b365 : b57 ≠ b365 := ob365.elim (fun q => q ▸ ne_b57_b351) (fun q => Nat.ne_of_lt (Nat.lt_of_lt_of_le E351'.lt q))
    have f367 := f353.keep K365 (ninS ne_b8_b57 (ninS ne_b8_b351 nin0))
    have f368 := E351'.keep K365
    have Z369 : n0 ≤ T365.heap.size := Nat.le_trans Z355 K365.1
    have KP370 : Keep h0 T365.heap [] := KP356.trans K365 (allS (Or.inr sz_b57) (allS (Or.inr sz351) all0))
    have f371 : Fld Z T365.heap b57 "org/arborlog/pattern/LineText" "length" "I" (.int (4 : Int32)) := Fl365
    have ct372 : vs365.getD 0 (Value.int (0 : Int32)) = .int (nar .char (nar .char r13)) := (hc365 0 (by decide)).trans ct358
    have ct373 : vs365.getD 1 (Value.int (0 : Int32)) = .int (nar .char (nar .char r22)) := (hc365 1 (by decide)).trans ct359
    have ct374 : vs365.getD 2 (Value.int (0 : Int32)) = .int (nar .char (nar .char r31)) := (hc365 2 (by decide)).trans ct360
    have ct375 : vs365.getD 3 (Value.int (0 : Int32)) = .int (nar .char (nar .char r40)) := hd365
    have K376 : ∀ t, Steps p.tables e below (T365.setTop (mkF m 153 #[.val (.int p1), .val (.int p2), .val (.int p3), .val (.int p4), .val (.int p5), .val (.int p6), .val (.int (5 : Int32)), .val (.int sa), .val (.int cp), .val (.ref b8), .val (.ref b57), .unset] [(.ref b57)])) t → Steps p.tables e below G t := fun t k => K364 t (st365.trans k)
    have K377 : ∀ t, Steps p.tables e below (T365.setTop (mkF m 165 #[.val (.int p1), .val (.int p2), .val (.int p3), .val (.int p4), .val (.int p5), .val (.int p6), .val (.int (5 : Int32)), .val (.int sa), .val (.int cp), .val (.ref b8), .val (.ref b57), .unset] [(.int (4 : Int32)), (.ref b8), (.ref b57)])) t → Steps p.tables e below G t := by
      intro t k
      refine K376 t ?_
      show Steps p.tables e below (T365.setTop (mkF m 153 #[.val (.int p1), .val (.int p2), .val (.int p3), .val (.int p4), .val (.int p5), .val (.int p6), .val (.int (5 : Int32)), .val (.int sa), .val (.int cp), .val (.ref b8), .val (.ref b57), .unset] [(.ref b57)])) _
      refine XS.pop X365.here hx rfl (hb hby at_153) rfl rfl ?_
      show Steps p.tables e below (T365.setTop (mkF m 154 #[.val (.int p1), .val (.int p2), .val (.int p3), .val (.int p4), .val (.int p5), .val (.int p6), .val (.int (5 : Int32)), .val (.int sa), .val (.int cp), .val (.ref b8), .val (.ref b57), .unset] [])) _
      refine XS.iload X365.here hx rfl (hb hby at_154) rfl ?_
      show Steps p.tables e below (T365.setTop (mkF m 156 #[.val (.int p1), .val (.int p2), .val (.int p3), .val (.int p4), .val (.int p5), .val (.int p6), .val (.int (5 : Int32)), .val (.int sa), .val (.int cp), .val (.ref b8), .val (.ref b57), .unset] [(.int (5 : Int32))])) _
      refine XS.iconst X365.here hx rfl (hb hby at_156) ?_
      show Steps p.tables e below (T365.setTop (mkF m 157 #[.val (.int p1), .val (.int p2), .val (.int p3), .val (.int p4), .val (.int p5), .val (.int p6), .val (.int (5 : Int32)), .val (.int sa), .val (.int cp), .val (.ref b8), .val (.ref b57), .unset] [(.int (4 : Int32)), (.int (5 : Int32))])) _
      refine XS.icmpNo X365.here hx rfl (hb hby at_157) rfl (tlt (by decide)).2.2.2 ?_
      show Steps p.tables e below (T365.setTop (mkF m 160 #[.val (.int p1), .val (.int p2), .val (.int p3), .val (.int p4), .val (.int p5), .val (.int p6), .val (.int (5 : Int32)), .val (.int sa), .val (.int cp), .val (.ref b8), .val (.ref b57), .unset] [])) _
      refine XS.aload X365.here hx rfl (hb hby at_160) rfl rfl ?_
      show Steps p.tables e below (T365.setTop (mkF m 162 #[.val (.int p1), .val (.int p2), .val (.int p3), .val (.int p4), .val (.int p5), .val (.int p6), .val (.int (5 : Int32)), .val (.int sa), .val (.int cp), .val (.ref b8), .val (.ref b57), .unset] [(.ref b57)])) _
      refine XS.aload X365.here hx rfl (hb hby at_162) rfl rfl ?_
      show Steps p.tables e below (T365.setTop (mkF m 164 #[.val (.int p1), .val (.int p2), .val (.int p3), .val (.int p4), .val (.int p5), .val (.int p6), .val (.int (5 : Int32)), .val (.int sa), .val (.int cp), .val (.ref b8), .val (.ref b57), .unset] [(.ref b8), (.ref b57)])) _
      refine XS.iconst X365.here hx rfl (hb hby at_164) ?_
      show Steps p.tables e below (T365.setTop (mkF m 165 #[.val (.int p1), .val (.int p2), .val (.int p3), .val (.int p4), .val (.int p5), .val (.int p6), .val (.int (5 : Int32)), .val (.int sa), .val (.int cp), .val (.ref b8), .val (.ref b57), .unset] [(.int (4 : Int32)), (.ref b8), (.ref b57)])) _
      exact k
    obtain ⟨cl378, Ar378, qc378, S378, M378, Ha378, Ga378⟩ := id f367
    have hin378 : ¬ ((4 : Int32) < 0 ∨ cl378.slots.size ≤ ((4 : Int32)).toNatClampNeg) := inb_of S378 ⟨by decide, by decide⟩
    have hat378 : cl378.slots[((4 : Int32)).toNatClampNeg]? = some (.int (nar .char r49)) := Ha378.at hin378 rfl
    have K379 : ∀ t, Steps p.tables e below (T365.setTop (mkF m 166 #[.val (.int p1), .val (.int p2), .val (.int p3), .val (.int p4), .val (.int p5), .val (.int p6), .val (.int (5 : Int32)), .val (.int sa), .val (.int cp), .val (.ref b8), .val (.ref b57), .unset] [(.int (nar .char r49)), (.ref b57)])) t → Steps p.tables e below G t := fun t k => K377 t (X365.caload hx (j := (4 : Int32)) (v := (.int (nar .char r49))) Ar378.1 (State.isArrayOf_alike hZ.alike Ar378.2.1) Ar378.2.2 hin378 hat378 (g := (mkF m 165 #[.val (.int p1), .val (.int p2), .val (.int p3), .val (.int p4), .val (.int p5), .val (.int p6), .val (.int (5 : Int32)), .val (.int sa), .val (.int cp), .val (.ref b8), .val (.ref b57), .unset] [(.int (4 : Int32)), (.ref b8), (.ref b57)])) rfl rfl (hb hby at_165) _ k)
    obtain ⟨cq380, kq380, q380a, q380b, q380c⟩ := isOf hZ rfl E365'
    obtain ⟨_, _, ⟨T380, L380, kk380, nn380⟩, -, X380, ⟨Lc380, hQ380, lq380, yq380, zq380⟩, st380⟩ := X365.virtualBack hx (y := (⟨"org/arborlog/pattern/LineText", "append", "(C)Lorg/arborlog/pattern/LineText;"⟩ : MethodName)) (z := (⟨"org/arborlog/pattern/LineText", "append", "(C)Lorg/arborlog/pattern/LineText;"⟩ : MethodName)) hown (mvT hZ (hw _ (List.mem_of_getElem? (i := 19) rfl))) (mvT hZ (hw _ (List.mem_of_getElem? (i := 20) rfl))) (notFace_of_selects (args := #[]) (mvT hZ (hw _ (List.mem_of_getElem? (i := 22) rfl)))) (mvT hZ (hw _ (List.mem_of_getElem? (i := 22) rfl))) (mvT hZ (hw _ (List.mem_of_getElem? (i := 21) rfl))) (by decide) (backOf (W := 0) (rm4 l Z a0 hw [] b57 (nar .char r49) b365 kb365 zb365 (4 : Int32) vs365 T365.heap n0 Z369 E365' Fc365 f371 Vb365 ne_b57_b365 g_b57 gb365 ⟨by decide, by decide⟩ hz365.1 hz365.2) hZ (hw _ (List.mem_of_getElem? (i := 23) rfl)) (hw _ (List.mem_of_getElem? (i := 10) rfl)) (by decide) (by decide)) q380a q380c (g := (mkF m 166 #[.val (.int p1), .val (.int p2), .val (.int p3), .val (.int p4), .val (.int p5), .val (.int p6), .val (.int (5 : Int32)), .val (.int sa), .val (.int cp), .val (.ref b8), .val (.ref b57), .unset] [(.int (nar .char r49)), (.ref b57)])) rfl (by rw [hml]; rfl) (Steps.refl _) (argsL := [(.int (nar .char r49))]) (rest := []) (lenOf pd_10 rfl) rfl (by show 2 * 0 + _ ≤ _; exact Nat.le_of_eq rfl) (hb hby at_166) (fun _ _ => ⟨rfl, rfl, (by decide : 7 + 1 ≤ _), (by decide : 55 + 10 ≤ _)⟩)
    dsimp only [Pt.U, Pt.locs, Pt.cells, Pt.slots] at X380 lq380 yq380 zq380 st380 hQ380
    subst lq380 yq380 zq380
    obtain ⟨b380, kb380, zb380, vs380, rfl, Nq380, K380, ob380, E380', Fc380, Fl380, Vb380, hz380, hc380, hd380⟩ := hQ380
    have N381 := Fr.app N366 Nq380
    have gb380 : n0 ≤ b380 := ob380.elim (fun q => q ▸ gb365) (fun q => Nat.le_trans Z369 q)
    have sz380 : h0.size ≤ b380 := ob380.elim (fun q => q ▸ sz365) (fun q => Nat.le_trans KP370.1 q)
    have ne_b8_b380 : b8 ≠ b380 := ob380.elim (fun q => q ▸ ne_b8_b365) (fun q => Nat.ne_of_lt (Nat.lt_of_lt_of_le f367.lt q))
    have ne_b57_b380 : b57 ≠ b380 := ob380.elim (fun q => q ▸ ne_b57_b365) (fun q => Nat.ne_of_lt (Nat.lt_of_lt_of_le E365'.lt q))
    have f382 := f367.keep K380 (ninS ne_b8_b57 (ninS ne_b8_b365 nin0))
    have f383 := E365'.keep K380
    have Z384 : n0 ≤ T380.heap.size := Nat.le_trans Z369 K380.1
    have KP385 : Keep h0 T380.heap [] := KP370.trans K380 (allS (Or.inr sz_b57) (allS (Or.inr sz365) all0))
    have f386 : Fld Z T380.heap b57 "org/arborlog/pattern/LineText" "length" "I" (.int (5 : Int32)) := Fl380
    have ct387 : vs380.getD 0 (Value.int (0 : Int32)) = .int (nar .char (nar .char r13)) := (hc380 0 (by decide)).trans ct372
    have ct388 : vs380.getD 1 (Value.int (0 : Int32)) = .int (nar .char (nar .char r22)) := (hc380 1 (by decide)).trans ct373
    have ct389 : vs380.getD 2 (Value.int (0 : Int32)) = .int (nar .char (nar .char r31)) := (hc380 2 (by decide)).trans ct374
    have ct390 : vs380.getD 3 (Value.int (0 : Int32)) = .int (nar .char (nar .char r40)) := (hc380 3 (by decide)).trans ct375
    have ct391 : vs380.getD 4 (Value.int (0 : Int32)) = .int (nar .char (nar .char r49)) := hd380
    have K392 : ∀ t, Steps p.tables e below (T380.setTop (mkF m 169 #[.val (.int p1), .val (.int p2), .val (.int p3), .val (.int p4), .val (.int p5), .val (.int p6), .val (.int (5 : Int32)), .val (.int sa), .val (.int cp), .val (.ref b8), .val (.ref b57), .unset] [(.ref b57)])) t → Steps p.tables e below G t := fun t k => K379 t (st380.trans k)
    have K393 : ∀ t, Steps p.tables e below (T380.setTop (mkF m 177 #[.val (.int p1), .val (.int p2), .val (.int p3), .val (.int p4), .val (.int p5), .val (.int p6), .val (.int (5 : Int32)), .val (.int sa), .val (.int cp), .val (.ref b8), .val (.ref b57), .unset] [(.int (5 : Int32)), (.int sa), (.int (0 : Int32)), (.ref b8)])) t → Steps p.tables e below G t := by
      intro t k
      refine K392 t ?_
      show Steps p.tables e below (T380.setTop (mkF m 169 #[.val (.int p1), .val (.int p2), .val (.int p3), .val (.int p4), .val (.int p5), .val (.int p6), .val (.int (5 : Int32)), .val (.int sa), .val (.int cp), .val (.ref b8), .val (.ref b57), .unset] [(.ref b57)])) _
      refine XS.pop X380.here hx rfl (hb hby at_169) rfl rfl ?_
      show Steps p.tables e below (T380.setTop (mkF m 170 #[.val (.int p1), .val (.int p2), .val (.int p3), .val (.int p4), .val (.int p5), .val (.int p6), .val (.int (5 : Int32)), .val (.int sa), .val (.int cp), .val (.ref b8), .val (.ref b57), .unset] [])) _
      refine XS.aload X380.here hx rfl (hb hby at_170) rfl rfl ?_
      show Steps p.tables e below (T380.setTop (mkF m 172 #[.val (.int p1), .val (.int p2), .val (.int p3), .val (.int p4), .val (.int p5), .val (.int p6), .val (.int (5 : Int32)), .val (.int sa), .val (.int cp), .val (.ref b8), .val (.ref b57), .unset] [(.ref b8)])) _
      refine XS.iconst X380.here hx rfl (hb hby at_172) ?_
      show Steps p.tables e below (T380.setTop (mkF m 173 #[.val (.int p1), .val (.int p2), .val (.int p3), .val (.int p4), .val (.int p5), .val (.int p6), .val (.int (5 : Int32)), .val (.int sa), .val (.int cp), .val (.ref b8), .val (.ref b57), .unset] [(.int (0 : Int32)), (.ref b8)])) _
      refine XS.iload X380.here hx rfl (hb hby at_173) rfl ?_
      show Steps p.tables e below (T380.setTop (mkF m 175 #[.val (.int p1), .val (.int p2), .val (.int p3), .val (.int p4), .val (.int p5), .val (.int p6), .val (.int (5 : Int32)), .val (.int sa), .val (.int cp), .val (.ref b8), .val (.ref b57), .unset] [(.int sa), (.int (0 : Int32)), (.ref b8)])) _
      refine XS.iload X380.here hx rfl (hb hby at_175) rfl ?_
      show Steps p.tables e below (T380.setTop (mkF m 177 #[.val (.int p1), .val (.int p2), .val (.int p3), .val (.int p4), .val (.int p5), .val (.int p6), .val (.int (5 : Int32)), .val (.int sa), .val (.int cp), .val (.ref b8), .val (.ref b57), .unset] [(.int (5 : Int32)), (.int sa), (.int (0 : Int32)), (.ref b8)])) _
      exact k
    obtain ⟨_, _, ⟨T394, L394, kk394, nn394⟩, -, X394, ⟨Lc394, hQ394, lq394, yq394, zq394⟩, st394⟩ := Jvm.LawKit.callS X380 hx (y := (⟨"org/arborlog/pattern/LineTextCodePointCountPinLaw", "contrib", "([CIII)I"⟩ : MethodName)) hown (mvT hZ (hw _ (List.mem_of_getElem? (i := 45) rfl))) (mvT hZ (hw _ (List.mem_of_getElem? (i := 46) rfl))) (mvT hZ (hw _ (List.mem_of_getElem? (i := 3) rfl))) (mvT hZ (hw _ (List.mem_of_getElem? (i := 47) rfl))) (by decide) (backOf (W := 0) (rm9 l Z a0 hw [] b8 (0 : Int32) sa (5 : Int32) kn8 [(.int (nar .char r13)), (.int (nar .char r22)), (.int (nar .char r31)), (.int (nar .char r40)), (.int (nar .char r49))] 0 (nar .char r13) T380.heap n0 Z384 f382 (fun q => absurd q hsa0) ⟨⟨by decide, by decide⟩, rfl⟩) hZ (hw _ (List.mem_of_getElem? (i := 47) rfl)) (hw _ (List.mem_of_getElem? (i := 3) rfl)) (by decide) (by decide)) (g := (mkF m 177 #[.val (.int p1), .val (.int p2), .val (.int p3), .val (.int p4), .val (.int p5), .val (.int p6), .val (.int (5 : Int32)), .val (.int sa), .val (.int cp), .val (.ref b8), .val (.ref b57), .unset] [(.int (5 : Int32)), (.int sa), (.int (0 : Int32)), (.ref b8)])) rfl (by rw [hml]; rfl) (argsL := [(.ref b8), (.int (0 : Int32)), (.int sa), (.int (5 : Int32))]) (rest := []) (lenOf pd_8 rfl) rfl (by show 2 * 0 + _ ≤ _; exact Nat.le_of_eq rfl) (hb hby at_177) (fun _ _ => ⟨rfl, rfl, (by decide : 8 + 0 ≤ _), (by decide : 65 + 0 ≤ _)⟩)
    dsimp only [Pt.U, Pt.locs, Pt.cells, Pt.slots] at X394 lq394 yq394 zq394 st394 hQ394
    subst lq394 yq394 zq394
    obtain ⟨rfl, Nq394, e394⟩ := hQ394
    have N395 := Fr.app N381 Nq394
    have K396 : ∀ t, Steps p.tables e below (T394.setTop (mkF m 180 #[.val (.int p1), .val (.int p2), .val (.int p3), .val (.int p4), .val (.int p5), .val (.int p6), .val (.int (5 : Int32)), .val (.int sa), .val (.int cp), .val (.ref b8), .val (.ref b57), .unset] [(.int (own_con (0 : Int32) sa (5 : Int32) 0 (nar .char r13)))])) t → Steps p.tables e below G t := fun t k => K393 t (st394 _ k)
    have K397 : ∀ t, Steps p.tables e below (T394.setTop (mkF m 187 #[.val (.int p1), .val (.int p2), .val (.int p3), .val (.int p4), .val (.int p5), .val (.int p6), .val (.int (5 : Int32)), .val (.int sa), .val (.int cp), .val (.ref b8), .val (.ref b57), .unset] [(.int (5 : Int32)), (.int sa), (.int (1 : Int32)), (.ref b8), (.int (own_con (0 : Int32) sa (5 : Int32) 0 (nar .char r13)))])) t → Steps p.tables e below G t := by
      intro t k
      refine K396 t ?_
      show Steps p.tables e below (T394.setTop (mkF m 180 #[.val (.int p1), .val (.int p2), .val (.int p3), .val (.int p4), .val (.int p5), .val (.int p6), .val (.int (5 : Int32)), .val (.int sa), .val (.int cp), .val (.ref b8), .val (.ref b57), .unset] [(.int (own_con (0 : Int32) sa (5 : Int32) 0 (nar .char r13)))])) _
      refine XS.aload X394.here hx rfl (hb hby at_180) rfl rfl ?_
      show Steps p.tables e below (T394.setTop (mkF m 182 #[.val (.int p1), .val (.int p2), .val (.int p3), .val (.int p4), .val (.int p5), .val (.int p6), .val (.int (5 : Int32)), .val (.int sa), .val (.int cp), .val (.ref b8), .val (.ref b57), .unset] [(.ref b8), (.int (own_con (0 : Int32) sa (5 : Int32) 0 (nar .char r13)))])) _
      refine XS.iconst X394.here hx rfl (hb hby at_182) ?_
      show Steps p.tables e below (T394.setTop (mkF m 183 #[.val (.int p1), .val (.int p2), .val (.int p3), .val (.int p4), .val (.int p5), .val (.int p6), .val (.int (5 : Int32)), .val (.int sa), .val (.int cp), .val (.ref b8), .val (.ref b57), .unset] [(.int (1 : Int32)), (.ref b8), (.int (own_con (0 : Int32) sa (5 : Int32) 0 (nar .char r13)))])) _
      refine XS.iload X394.here hx rfl (hb hby at_183) rfl ?_
      show Steps p.tables e below (T394.setTop (mkF m 185 #[.val (.int p1), .val (.int p2), .val (.int p3), .val (.int p4), .val (.int p5), .val (.int p6), .val (.int (5 : Int32)), .val (.int sa), .val (.int cp), .val (.ref b8), .val (.ref b57), .unset] [(.int sa), (.int (1 : Int32)), (.ref b8), (.int (own_con (0 : Int32) sa (5 : Int32) 0 (nar .char r13)))])) _
      refine XS.iload X394.here hx rfl (hb hby at_185) rfl ?_
      show Steps p.tables e below (T394.setTop (mkF m 187 #[.val (.int p1), .val (.int p2), .val (.int p3), .val (.int p4), .val (.int p5), .val (.int p6), .val (.int (5 : Int32)), .val (.int sa), .val (.int cp), .val (.ref b8), .val (.ref b57), .unset] [(.int (5 : Int32)), (.int sa), (.int (1 : Int32)), (.ref b8), (.int (own_con (0 : Int32) sa (5 : Int32) 0 (nar .char r13)))])) _
      exact k
    obtain ⟨_, _, ⟨T398, L398, kk398, nn398⟩, -, X398, ⟨Lc398, hQ398, lq398, yq398, zq398⟩, st398⟩ := Jvm.LawKit.callS X394 hx (y := (⟨"org/arborlog/pattern/LineTextCodePointCountPinLaw", "contrib", "([CIII)I"⟩ : MethodName)) hown (mvT hZ (hw _ (List.mem_of_getElem? (i := 45) rfl))) (mvT hZ (hw _ (List.mem_of_getElem? (i := 46) rfl))) (mvT hZ (hw _ (List.mem_of_getElem? (i := 3) rfl))) (mvT hZ (hw _ (List.mem_of_getElem? (i := 47) rfl))) (by decide) (backOf (W := 1) (rm9 l Z a0 hw [] b8 (1 : Int32) sa (5 : Int32) kn8 [(.int (nar .char r13)), (.int (nar .char r22)), (.int (nar .char r31)), (.int (nar .char r40)), (.int (nar .char r49))] (nar .char r13) (nar .char r22) T380.heap n0 Z384 f382 (fun _ => ⟨⟨by decide, by decide⟩, rfl⟩) ⟨⟨by decide, by decide⟩, rfl⟩) hZ (hw _ (List.mem_of_getElem? (i := 47) rfl)) (hw _ (List.mem_of_getElem? (i := 3) rfl)) (by decide) (by decide)) (g := (mkF m 187 #[.val (.int p1), .val (.int p2), .val (.int p3), .val (.int p4), .val (.int p5), .val (.int p6), .val (.int (5 : Int32)), .val (.int sa), .val (.int cp), .val (.ref b8), .val (.ref b57), .unset] [(.int (5 : Int32)), (.int sa), (.int (1 : Int32)), (.ref b8), (.int (own_con (0 : Int32) sa (5 : Int32) 0 (nar .char r13)))])) rfl (by rw [hml]; rfl) (argsL := [(.ref b8), (.int (1 : Int32)), (.int sa), (.int (5 : Int32))]) (rest := [(.int (own_con (0 : Int32) sa (5 : Int32) 0 (nar .char r13)))]) (lenOf pd_8 rfl) rfl (by show 2 * 0 + _ ≤ _; exact Nat.le_of_eq rfl) (hb hby at_187) (fun _ _ => ⟨rfl, e394, (by decide : 8 + 0 ≤ _), (by decide : 65 + 0 ≤ _)⟩)
    dsimp only [Pt.U, Pt.locs, Pt.cells, Pt.slots] at X398 lq398 yq398 zq398 st398 hQ398
    subst lq398 yq398 zq398
    obtain ⟨rfl, Nq398, e398⟩ := hQ398
    have N399 := Fr.app N395 Nq398
    have K400 : ∀ t, Steps p.tables e below (T398.setTop (mkF m 190 #[.val (.int p1), .val (.int p2), .val (.int p3), .val (.int p4), .val (.int p5), .val (.int p6), .val (.int (5 : Int32)), .val (.int sa), .val (.int cp), .val (.ref b8), .val (.ref b57), .unset] [(.int (own_con (1 : Int32) sa (5 : Int32) (nar .char r13) (nar .char r22))), (.int (own_con (0 : Int32) sa (5 : Int32) 0 (nar .char r13)))])) t → Steps p.tables e below G t := fun t k => K397 t (st398 _ k)
    have K401 : ∀ t, Steps p.tables e below (T398.setTop (mkF m 198 #[.val (.int p1), .val (.int p2), .val (.int p3), .val (.int p4), .val (.int p5), .val (.int p6), .val (.int (5 : Int32)), .val (.int sa), .val (.int cp), .val (.ref b8), .val (.ref b57), .unset] [(.int (5 : Int32)), (.int sa), (.int (2 : Int32)), (.ref b8), (.int ((own_con (0 : Int32) sa (5 : Int32) 0 (nar .char r13)) + (own_con (1 : Int32) sa (5 : Int32) (nar .char r13) (nar .char r22))))])) t → Steps p.tables e below G t := by
      intro t k
      refine K400 t ?_
      show Steps p.tables e below (T398.setTop (mkF m 190 #[.val (.int p1), .val (.int p2), .val (.int p3), .val (.int p4), .val (.int p5), .val (.int p6), .val (.int (5 : Int32)), .val (.int sa), .val (.int cp), .val (.ref b8), .val (.ref b57), .unset] [(.int (own_con (1 : Int32) sa (5 : Int32) (nar .char r13) (nar .char r22))), (.int (own_con (0 : Int32) sa (5 : Int32) 0 (nar .char r13)))])) _
      refine XS.iadd X398.here hx rfl (hb hby at_190) rfl ?_
      show Steps p.tables e below (T398.setTop (mkF m 191 #[.val (.int p1), .val (.int p2), .val (.int p3), .val (.int p4), .val (.int p5), .val (.int p6), .val (.int (5 : Int32)), .val (.int sa), .val (.int cp), .val (.ref b8), .val (.ref b57), .unset] [(.int ((own_con (0 : Int32) sa (5 : Int32) 0 (nar .char r13)) + (own_con (1 : Int32) sa (5 : Int32) (nar .char r13) (nar .char r22))))])) _
      refine XS.aload X398.here hx rfl (hb hby at_191) rfl rfl ?_
      show Steps p.tables e below (T398.setTop (mkF m 193 #[.val (.int p1), .val (.int p2), .val (.int p3), .val (.int p4), .val (.int p5), .val (.int p6), .val (.int (5 : Int32)), .val (.int sa), .val (.int cp), .val (.ref b8), .val (.ref b57), .unset] [(.ref b8), (.int ((own_con (0 : Int32) sa (5 : Int32) 0 (nar .char r13)) + (own_con (1 : Int32) sa (5 : Int32) (nar .char r13) (nar .char r22))))])) _
      refine XS.iconst X398.here hx rfl (hb hby at_193) ?_
      show Steps p.tables e below (T398.setTop (mkF m 194 #[.val (.int p1), .val (.int p2), .val (.int p3), .val (.int p4), .val (.int p5), .val (.int p6), .val (.int (5 : Int32)), .val (.int sa), .val (.int cp), .val (.ref b8), .val (.ref b57), .unset] [(.int (2 : Int32)), (.ref b8), (.int ((own_con (0 : Int32) sa (5 : Int32) 0 (nar .char r13)) + (own_con (1 : Int32) sa (5 : Int32) (nar .char r13) (nar .char r22))))])) _
      refine XS.iload X398.here hx rfl (hb hby at_194) rfl ?_
      show Steps p.tables e below (T398.setTop (mkF m 196 #[.val (.int p1), .val (.int p2), .val (.int p3), .val (.int p4), .val (.int p5), .val (.int p6), .val (.int (5 : Int32)), .val (.int sa), .val (.int cp), .val (.ref b8), .val (.ref b57), .unset] [(.int sa), (.int (2 : Int32)), (.ref b8), (.int ((own_con (0 : Int32) sa (5 : Int32) 0 (nar .char r13)) + (own_con (1 : Int32) sa (5 : Int32) (nar .char r13) (nar .char r22))))])) _
      refine XS.iload X398.here hx rfl (hb hby at_196) rfl ?_
      show Steps p.tables e below (T398.setTop (mkF m 198 #[.val (.int p1), .val (.int p2), .val (.int p3), .val (.int p4), .val (.int p5), .val (.int p6), .val (.int (5 : Int32)), .val (.int sa), .val (.int cp), .val (.ref b8), .val (.ref b57), .unset] [(.int (5 : Int32)), (.int sa), (.int (2 : Int32)), (.ref b8), (.int ((own_con (0 : Int32) sa (5 : Int32) 0 (nar .char r13)) + (own_con (1 : Int32) sa (5 : Int32) (nar .char r13) (nar .char r22))))])) _
      exact k
    obtain ⟨_, _, ⟨T402, L402, kk402, nn402⟩, -, X402, ⟨Lc402, hQ402, lq402, yq402, zq402⟩, st402⟩ := Jvm.LawKit.callS X398 hx (y := (⟨"org/arborlog/pattern/LineTextCodePointCountPinLaw", "contrib", "([CIII)I"⟩ : MethodName)) hown (mvT hZ (hw _ (List.mem_of_getElem? (i := 45) rfl))) (mvT hZ (hw _ (List.mem_of_getElem? (i := 46) rfl))) (mvT hZ (hw _ (List.mem_of_getElem? (i := 3) rfl))) (mvT hZ (hw _ (List.mem_of_getElem? (i := 47) rfl))) (by decide) (backOf (W := 1) (rm9 l Z a0 hw [] b8 (2 : Int32) sa (5 : Int32) kn8 [(.int (nar .char r13)), (.int (nar .char r22)), (.int (nar .char r31)), (.int (nar .char r40)), (.int (nar .char r49))] (nar .char r22) (nar .char r31) T380.heap n0 Z384 f382 (fun _ => ⟨⟨by decide, by decide⟩, rfl⟩) ⟨⟨by decide, by decide⟩, rfl⟩) hZ (hw _ (List.mem_of_getElem? (i := 47) rfl)) (hw _ (List.mem_of_getElem? (i := 3) rfl)) (by decide) (by decide)) (g := (mkF m 198 #[.val (.int p1), .val (.int p2), .val (.int p3), .val (.int p4), .val (.int p5), .val (.int p6), .val (.int (5 : Int32)), .val (.int sa), .val (.int cp), .val (.ref b8), .val (.ref b57), .unset] [(.int (5 : Int32)), (.int sa), (.int (2 : Int32)), (.ref b8), (.int ((own_con (0 : Int32) sa (5 : Int32) 0 (nar .char r13)) + (own_con (1 : Int32) sa (5 : Int32) (nar .char r13) (nar .char r22))))])) rfl (by rw [hml]; rfl) (argsL := [(.ref b8), (.int (2 : Int32)), (.int sa), (.int (5 : Int32))]) (rest := [(.int ((own_con (0 : Int32) sa (5 : Int32) 0 (nar .char r13)) + (own_con (1 : Int32) sa (5 : Int32) (nar .char r13) (nar .char r22))))]) (lenOf pd_8 rfl) rfl (by show 2 * 0 + _ ≤ _; exact Nat.le_of_eq rfl) (hb hby at_198) (fun _ _ => ⟨rfl, e398, (by decide : 8 + 0 ≤ _), (by decide : 65 + 0 ≤ _)⟩)
    dsimp only [Pt.U, Pt.locs, Pt.cells, Pt.slots] at X402 lq402 yq402 zq402 st402 hQ402
    subst lq402 yq402 zq402
    obtain ⟨rfl, Nq402, e402⟩ := hQ402
    have N403 := Fr.app N399 Nq402
    have K404 : ∀ t, Steps p.tables e below (T402.setTop (mkF m 201 #[.val (.int p1), .val (.int p2), .val (.int p3), .val (.int p4), .val (.int p5), .val (.int p6), .val (.int (5 : Int32)), .val (.int sa), .val (.int cp), .val (.ref b8), .val (.ref b57), .unset] [(.int (own_con (2 : Int32) sa (5 : Int32) (nar .char r22) (nar .char r31))), (.int ((own_con (0 : Int32) sa (5 : Int32) 0 (nar .char r13)) + (own_con (1 : Int32) sa (5 : Int32) (nar .char r13) (nar .char r22))))])) t → Steps p.tables e below G t := fun t k => K401 t (st402 _ k)
    have K405 : ∀ t, Steps p.tables e below (T402.setTop (mkF m 209 #[.val (.int p1), .val (.int p2), .val (.int p3), .val (.int p4), .val (.int p5), .val (.int p6), .val (.int (5 : Int32)), .val (.int sa), .val (.int cp), .val (.ref b8), .val (.ref b57), .unset] [(.int (5 : Int32)), (.int sa), (.int (3 : Int32)), (.ref b8), (.int (((own_con (0 : Int32) sa (5 : Int32) 0 (nar .char r13)) + (own_con (1 : Int32) sa (5 : Int32) (nar .char r13) (nar .char r22))) + (own_con (2 : Int32) sa (5 : Int32) (nar .char r22) (nar .char r31))))])) t → Steps p.tables e below G t := by
      intro t k
      refine K404 t ?_
      show Steps p.tables e below (T402.setTop (mkF m 201 #[.val (.int p1), .val (.int p2), .val (.int p3), .val (.int p4), .val (.int p5), .val (.int p6), .val (.int (5 : Int32)), .val (.int sa), .val (.int cp), .val (.ref b8), .val (.ref b57), .unset] [(.int (own_con (2 : Int32) sa (5 : Int32) (nar .char r22) (nar .char r31))), (.int ((own_con (0 : Int32) sa (5 : Int32) 0 (nar .char r13)) + (own_con (1 : Int32) sa (5 : Int32) (nar .char r13) (nar .char r22))))])) _
      refine XS.iadd X402.here hx rfl (hb hby at_201) rfl ?_
      show Steps p.tables e below (T402.setTop (mkF m 202 #[.val (.int p1), .val (.int p2), .val (.int p3), .val (.int p4), .val (.int p5), .val (.int p6), .val (.int (5 : Int32)), .val (.int sa), .val (.int cp), .val (.ref b8), .val (.ref b57), .unset] [(.int (((own_con (0 : Int32) sa (5 : Int32) 0 (nar .char r13)) + (own_con (1 : Int32) sa (5 : Int32) (nar .char r13) (nar .char r22))) + (own_con (2 : Int32) sa (5 : Int32) (nar .char r22) (nar .char r31))))])) _
      refine XS.aload X402.here hx rfl (hb hby at_202) rfl rfl ?_
      show Steps p.tables e below (T402.setTop (mkF m 204 #[.val (.int p1), .val (.int p2), .val (.int p3), .val (.int p4), .val (.int p5), .val (.int p6), .val (.int (5 : Int32)), .val (.int sa), .val (.int cp), .val (.ref b8), .val (.ref b57), .unset] [(.ref b8), (.int (((own_con (0 : Int32) sa (5 : Int32) 0 (nar .char r13)) + (own_con (1 : Int32) sa (5 : Int32) (nar .char r13) (nar .char r22))) + (own_con (2 : Int32) sa (5 : Int32) (nar .char r22) (nar .char r31))))])) _
      refine XS.iconst X402.here hx rfl (hb hby at_204) ?_
      show Steps p.tables e below (T402.setTop (mkF m 205 #[.val (.int p1), .val (.int p2), .val (.int p3), .val (.int p4), .val (.int p5), .val (.int p6), .val (.int (5 : Int32)), .val (.int sa), .val (.int cp), .val (.ref b8), .val (.ref b57), .unset] [(.int (3 : Int32)), (.ref b8), (.int (((own_con (0 : Int32) sa (5 : Int32) 0 (nar .char r13)) + (own_con (1 : Int32) sa (5 : Int32) (nar .char r13) (nar .char r22))) + (own_con (2 : Int32) sa (5 : Int32) (nar .char r22) (nar .char r31))))])) _
      refine XS.iload X402.here hx rfl (hb hby at_205) rfl ?_
      show Steps p.tables e below (T402.setTop (mkF m 207 #[.val (.int p1), .val (.int p2), .val (.int p3), .val (.int p4), .val (.int p5), .val (.int p6), .val (.int (5 : Int32)), .val (.int sa), .val (.int cp), .val (.ref b8), .val (.ref b57), .unset] [(.int sa), (.int (3 : Int32)), (.ref b8), (.int (((own_con (0 : Int32) sa (5 : Int32) 0 (nar .char r13)) + (own_con (1 : Int32) sa (5 : Int32) (nar .char r13) (nar .char r22))) + (own_con (2 : Int32) sa (5 : Int32) (nar .char r22) (nar .char r31))))])) _
      refine XS.iload X402.here hx rfl (hb hby at_207) rfl ?_
      show Steps p.tables e below (T402.setTop (mkF m 209 #[.val (.int p1), .val (.int p2), .val (.int p3), .val (.int p4), .val (.int p5), .val (.int p6), .val (.int (5 : Int32)), .val (.int sa), .val (.int cp), .val (.ref b8), .val (.ref b57), .unset] [(.int (5 : Int32)), (.int sa), (.int (3 : Int32)), (.ref b8), (.int (((own_con (0 : Int32) sa (5 : Int32) 0 (nar .char r13)) + (own_con (1 : Int32) sa (5 : Int32) (nar .char r13) (nar .char r22))) + (own_con (2 : Int32) sa (5 : Int32) (nar .char r22) (nar .char r31))))])) _
      exact k
    obtain ⟨_, _, ⟨T406, L406, kk406, nn406⟩, -, X406, ⟨Lc406, hQ406, lq406, yq406, zq406⟩, st406⟩ := Jvm.LawKit.callS X402 hx (y := (⟨"org/arborlog/pattern/LineTextCodePointCountPinLaw", "contrib", "([CIII)I"⟩ : MethodName)) hown (mvT hZ (hw _ (List.mem_of_getElem? (i := 45) rfl))) (mvT hZ (hw _ (List.mem_of_getElem? (i := 46) rfl))) (mvT hZ (hw _ (List.mem_of_getElem? (i := 3) rfl))) (mvT hZ (hw _ (List.mem_of_getElem? (i := 47) rfl))) (by decide) (backOf (W := 1) (rm9 l Z a0 hw [] b8 (3 : Int32) sa (5 : Int32) kn8 [(.int (nar .char r13)), (.int (nar .char r22)), (.int (nar .char r31)), (.int (nar .char r40)), (.int (nar .char r49))] (nar .char r31) (nar .char r40) T380.heap n0 Z384 f382 (fun _ => ⟨⟨by decide, by decide⟩, rfl⟩) ⟨⟨by decide, by decide⟩, rfl⟩) hZ (hw _ (List.mem_of_getElem? (i := 47) rfl)) (hw _ (List.mem_of_getElem? (i := 3) rfl)) (by decide) (by decide)) (g := (mkF m 209 #[.val (.int p1), .val (.int p2), .val (.int p3), .val (.int p4), .val (.int p5), .val (.int p6), .val (.int (5 : Int32)), .val (.int sa), .val (.int cp), .val (.ref b8), .val (.ref b57), .unset] [(.int (5 : Int32)), (.int sa), (.int (3 : Int32)), (.ref b8), (.int (((own_con (0 : Int32) sa (5 : Int32) 0 (nar .char r13)) + (own_con (1 : Int32) sa (5 : Int32) (nar .char r13) (nar .char r22))) + (own_con (2 : Int32) sa (5 : Int32) (nar .char r22) (nar .char r31))))])) rfl (by rw [hml]; rfl) (argsL := [(.ref b8), (.int (3 : Int32)), (.int sa), (.int (5 : Int32))]) (rest := [(.int (((own_con (0 : Int32) sa (5 : Int32) 0 (nar .char r13)) + (own_con (1 : Int32) sa (5 : Int32) (nar .char r13) (nar .char r22))) + (own_con (2 : Int32) sa (5 : Int32) (nar .char r22) (nar .char r31))))]) (lenOf pd_8 rfl) rfl (by show 2 * 0 + _ ≤ _; exact Nat.le_of_eq rfl) (hb hby at_209) (fun _ _ => ⟨rfl, e402, (by decide : 8 + 0 ≤ _), (by decide : 65 + 0 ≤ _)⟩)
    dsimp only [Pt.U, Pt.locs, Pt.cells, Pt.slots] at X406 lq406 yq406 zq406 st406 hQ406
    subst lq406 yq406 zq406
    obtain ⟨rfl, Nq406, e406⟩ := hQ406
    have N407 := Fr.app N403 Nq406
    have K408 : ∀ t, Steps p.tables e below (T406.setTop (mkF m 212 #[.val (.int p1), .val (.int p2), .val (.int p3), .val (.int p4), .val (.int p5), .val (.int p6), .val (.int (5 : Int32)), .val (.int sa), .val (.int cp), .val (.ref b8), .val (.ref b57), .unset] [(.int (own_con (3 : Int32) sa (5 : Int32) (nar .char r31) (nar .char r40))), (.int (((own_con (0 : Int32) sa (5 : Int32) 0 (nar .char r13)) + (own_con (1 : Int32) sa (5 : Int32) (nar .char r13) (nar .char r22))) + (own_con (2 : Int32) sa (5 : Int32) (nar .char r22) (nar .char r31))))])) t → Steps p.tables e below G t := fun t k => K405 t (st406 _ k)
    have K409 : ∀ t, Steps p.tables e below (T406.setTop (mkF m 220 #[.val (.int p1), .val (.int p2), .val (.int p3), .val (.int p4), .val (.int p5), .val (.int p6), .val (.int (5 : Int32)), .val (.int sa), .val (.int cp), .val (.ref b8), .val (.ref b57), .unset] [(.int (5 : Int32)), (.int sa), (.int (4 : Int32)), (.ref b8), (.int ((((own_con (0 : Int32) sa (5 : Int32) 0 (nar .char r13)) + (own_con (1 : Int32) sa (5 : Int32) (nar .char r13) (nar .char r22))) + (own_con (2 : Int32) sa (5 : Int32) (nar .char r22) (nar .char r31))) + (own_con (3 : Int32) sa (5 : Int32) (nar .char r31) (nar .char r40))))])) t → Steps p.tables e below G t := by
      intro t k
      refine K408 t ?_
      show Steps p.tables e below (T406.setTop (mkF m 212 #[.val (.int p1), .val (.int p2), .val (.int p3), .val (.int p4), .val (.int p5), .val (.int p6), .val (.int (5 : Int32)), .val (.int sa), .val (.int cp), .val (.ref b8), .val (.ref b57), .unset] [(.int (own_con (3 : Int32) sa (5 : Int32) (nar .char r31) (nar .char r40))), (.int (((own_con (0 : Int32) sa (5 : Int32) 0 (nar .char r13)) + (own_con (1 : Int32) sa (5 : Int32) (nar .char r13) (nar .char r22))) + (own_con (2 : Int32) sa (5 : Int32) (nar .char r22) (nar .char r31))))])) _
      refine XS.iadd X406.here hx rfl (hb hby at_212) rfl ?_
      show Steps p.tables e below (T406.setTop (mkF m 213 #[.val (.int p1), .val (.int p2), .val (.int p3), .val (.int p4), .val (.int p5), .val (.int p6), .val (.int (5 : Int32)), .val (.int sa), .val (.int cp), .val (.ref b8), .val (.ref b57), .unset] [(.int ((((own_con (0 : Int32) sa (5 : Int32) 0 (nar .char r13)) + (own_con (1 : Int32) sa (5 : Int32) (nar .char r13) (nar .char r22))) + (own_con (2 : Int32) sa (5 : Int32) (nar .char r22) (nar .char r31))) + (own_con (3 : Int32) sa (5 : Int32) (nar .char r31) (nar .char r40))))])) _
      refine XS.aload X406.here hx rfl (hb hby at_213) rfl rfl ?_
      show Steps p.tables e below (T406.setTop (mkF m 215 #[.val (.int p1), .val (.int p2), .val (.int p3), .val (.int p4), .val (.int p5), .val (.int p6), .val (.int (5 : Int32)), .val (.int sa), .val (.int cp), .val (.ref b8), .val (.ref b57), .unset] [(.ref b8), (.int ((((own_con (0 : Int32) sa (5 : Int32) 0 (nar .char r13)) + (own_con (1 : Int32) sa (5 : Int32) (nar .char r13) (nar .char r22))) + (own_con (2 : Int32) sa (5 : Int32) (nar .char r22) (nar .char r31))) + (own_con (3 : Int32) sa (5 : Int32) (nar .char r31) (nar .char r40))))])) _
      refine XS.iconst X406.here hx rfl (hb hby at_215) ?_
      show Steps p.tables e below (T406.setTop (mkF m 216 #[.val (.int p1), .val (.int p2), .val (.int p3), .val (.int p4), .val (.int p5), .val (.int p6), .val (.int (5 : Int32)), .val (.int sa), .val (.int cp), .val (.ref b8), .val (.ref b57), .unset] [(.int (4 : Int32)), (.ref b8), (.int ((((own_con (0 : Int32) sa (5 : Int32) 0 (nar .char r13)) + (own_con (1 : Int32) sa (5 : Int32) (nar .char r13) (nar .char r22))) + (own_con (2 : Int32) sa (5 : Int32) (nar .char r22) (nar .char r31))) + (own_con (3 : Int32) sa (5 : Int32) (nar .char r31) (nar .char r40))))])) _
      refine XS.iload X406.here hx rfl (hb hby at_216) rfl ?_
      show Steps p.tables e below (T406.setTop (mkF m 218 #[.val (.int p1), .val (.int p2), .val (.int p3), .val (.int p4), .val (.int p5), .val (.int p6), .val (.int (5 : Int32)), .val (.int sa), .val (.int cp), .val (.ref b8), .val (.ref b57), .unset] [(.int sa), (.int (4 : Int32)), (.ref b8), (.int ((((own_con (0 : Int32) sa (5 : Int32) 0 (nar .char r13)) + (own_con (1 : Int32) sa (5 : Int32) (nar .char r13) (nar .char r22))) + (own_con (2 : Int32) sa (5 : Int32) (nar .char r22) (nar .char r31))) + (own_con (3 : Int32) sa (5 : Int32) (nar .char r31) (nar .char r40))))])) _
      refine XS.iload X406.here hx rfl (hb hby at_218) rfl ?_
      show Steps p.tables e below (T406.setTop (mkF m 220 #[.val (.int p1), .val (.int p2), .val (.int p3), .val (.int p4), .val (.int p5), .val (.int p6), .val (.int (5 : Int32)), .val (.int sa), .val (.int cp), .val (.ref b8), .val (.ref b57), .unset] [(.int (5 : Int32)), (.int sa), (.int (4 : Int32)), (.ref b8), (.int ((((own_con (0 : Int32) sa (5 : Int32) 0 (nar .char r13)) + (own_con (1 : Int32) sa (5 : Int32) (nar .char r13) (nar .char r22))) + (own_con (2 : Int32) sa (5 : Int32) (nar .char r22) (nar .char r31))) + (own_con (3 : Int32) sa (5 : Int32) (nar .char r31) (nar .char r40))))])) _
      exact k
    obtain ⟨_, _, ⟨T410, L410, kk410, nn410⟩, -, X410, ⟨Lc410, hQ410, lq410, yq410, zq410⟩, st410⟩ := Jvm.LawKit.callS X406 hx (y := (⟨"org/arborlog/pattern/LineTextCodePointCountPinLaw", "contrib", "([CIII)I"⟩ : MethodName)) hown (mvT hZ (hw _ (List.mem_of_getElem? (i := 45) rfl))) (mvT hZ (hw _ (List.mem_of_getElem? (i := 46) rfl))) (mvT hZ (hw _ (List.mem_of_getElem? (i := 3) rfl))) (mvT hZ (hw _ (List.mem_of_getElem? (i := 47) rfl))) (by decide) (backOf (W := 1) (rm9 l Z a0 hw [] b8 (4 : Int32) sa (5 : Int32) kn8 [(.int (nar .char r13)), (.int (nar .char r22)), (.int (nar .char r31)), (.int (nar .char r40)), (.int (nar .char r49))] (nar .char r40) (nar .char r49) T380.heap n0 Z384 f382 (fun _ => ⟨⟨by decide, by decide⟩, rfl⟩) ⟨⟨by decide, by decide⟩, rfl⟩) hZ (hw _ (List.mem_of_getElem? (i := 47) rfl)) (hw _ (List.mem_of_getElem? (i := 3) rfl)) (by decide) (by decide)) (g := (mkF m 220 #[.val (.int p1), .val (.int p2), .val (.int p3), .val (.int p4), .val (.int p5), .val (.int p6), .val (.int (5 : Int32)), .val (.int sa), .val (.int cp), .val (.ref b8), .val (.ref b57), .unset] [(.int (5 : Int32)), (.int sa), (.int (4 : Int32)), (.ref b8), (.int ((((own_con (0 : Int32) sa (5 : Int32) 0 (nar .char r13)) + (own_con (1 : Int32) sa (5 : Int32) (nar .char r13) (nar .char r22))) + (own_con (2 : Int32) sa (5 : Int32) (nar .char r22) (nar .char r31))) + (own_con (3 : Int32) sa (5 : Int32) (nar .char r31) (nar .char r40))))])) rfl (by rw [hml]; rfl) (argsL := [(.ref b8), (.int (4 : Int32)), (.int sa), (.int (5 : Int32))]) (rest := [(.int ((((own_con (0 : Int32) sa (5 : Int32) 0 (nar .char r13)) + (own_con (1 : Int32) sa (5 : Int32) (nar .char r13) (nar .char r22))) + (own_con (2 : Int32) sa (5 : Int32) (nar .char r22) (nar .char r31))) + (own_con (3 : Int32) sa (5 : Int32) (nar .char r31) (nar .char r40))))]) (lenOf pd_8 rfl) rfl (by show 2 * 0 + _ ≤ _; exact Nat.le_of_eq rfl) (hb hby at_220) (fun _ _ => ⟨rfl, e406, (by decide : 8 + 0 ≤ _), (by decide : 65 + 0 ≤ _)⟩)
    dsimp only [Pt.U, Pt.locs, Pt.cells, Pt.slots] at X410 lq410 yq410 zq410 st410 hQ410
    subst lq410 yq410 zq410
    obtain ⟨rfl, Nq410, e410⟩ := hQ410
    have N411 := Fr.app N407 Nq410
    have K412 : ∀ t, Steps p.tables e below (T410.setTop (mkF m 223 #[.val (.int p1), .val (.int p2), .val (.int p3), .val (.int p4), .val (.int p5), .val (.int p6), .val (.int (5 : Int32)), .val (.int sa), .val (.int cp), .val (.ref b8), .val (.ref b57), .unset] [(.int (own_con (4 : Int32) sa (5 : Int32) (nar .char r40) (nar .char r49))), (.int ((((own_con (0 : Int32) sa (5 : Int32) 0 (nar .char r13)) + (own_con (1 : Int32) sa (5 : Int32) (nar .char r13) (nar .char r22))) + (own_con (2 : Int32) sa (5 : Int32) (nar .char r22) (nar .char r31))) + (own_con (3 : Int32) sa (5 : Int32) (nar .char r31) (nar .char r40))))])) t → Steps p.tables e below G t := fun t k => K409 t (st410 _ k)
    have K413 : ∀ t, Steps p.tables e below (T410.setTop (mkF m 230 #[.val (.int p1), .val (.int p2), .val (.int p3), .val (.int p4), .val (.int p5), .val (.int p6), .val (.int (5 : Int32)), .val (.int sa), .val (.int cp), .val (.ref b8), .val (.ref b57), .val (.int (((((own_con (0 : Int32) sa (5 : Int32) 0 (nar .char r13)) + (own_con (1 : Int32) sa (5 : Int32) (nar .char r13) (nar .char r22))) + (own_con (2 : Int32) sa (5 : Int32) (nar .char r22) (nar .char r31))) + (own_con (3 : Int32) sa (5 : Int32) (nar .char r31) (nar .char r40))) + (own_con (4 : Int32) sa (5 : Int32) (nar .char r40) (nar .char r49))))] [(.int sa), (.ref b57)])) t → Steps p.tables e below G t := by
      intro t k
      refine K412 t ?_
      show Steps p.tables e below (T410.setTop (mkF m 223 #[.val (.int p1), .val (.int p2), .val (.int p3), .val (.int p4), .val (.int p5), .val (.int p6), .val (.int (5 : Int32)), .val (.int sa), .val (.int cp), .val (.ref b8), .val (.ref b57), .unset] [(.int (own_con (4 : Int32) sa (5 : Int32) (nar .char r40) (nar .char r49))), (.int ((((own_con (0 : Int32) sa (5 : Int32) 0 (nar .char r13)) + (own_con (1 : Int32) sa (5 : Int32) (nar .char r13) (nar .char r22))) + (own_con (2 : Int32) sa (5 : Int32) (nar .char r22) (nar .char r31))) + (own_con (3 : Int32) sa (5 : Int32) (nar .char r31) (nar .char r40))))])) _
      refine XS.iadd X410.here hx rfl (hb hby at_223) rfl ?_
      show Steps p.tables e below (T410.setTop (mkF m 224 #[.val (.int p1), .val (.int p2), .val (.int p3), .val (.int p4), .val (.int p5), .val (.int p6), .val (.int (5 : Int32)), .val (.int sa), .val (.int cp), .val (.ref b8), .val (.ref b57), .unset] [(.int (((((own_con (0 : Int32) sa (5 : Int32) 0 (nar .char r13)) + (own_con (1 : Int32) sa (5 : Int32) (nar .char r13) (nar .char r22))) + (own_con (2 : Int32) sa (5 : Int32) (nar .char r22) (nar .char r31))) + (own_con (3 : Int32) sa (5 : Int32) (nar .char r31) (nar .char r40))) + (own_con (4 : Int32) sa (5 : Int32) (nar .char r40) (nar .char r49))))])) _
      refine XS.istore X410.here hx rfl (hb hby at_224) rfl (l' := #[.val (.int p1), .val (.int p2), .val (.int p3), .val (.int p4), .val (.int p5), .val (.int p6), .val (.int (5 : Int32)), .val (.int sa), .val (.int cp), .val (.ref b8), .val (.ref b57), .val (.int (((((own_con (0 : Int32) sa (5 : Int32) 0 (nar .char r13)) + (own_con (1 : Int32) sa (5 : Int32) (nar .char r13) (nar .char r22))) + (own_con (2 : Int32) sa (5 : Int32) (nar .char r22) (nar .char r31))) + (own_con (3 : Int32) sa (5 : Int32) (nar .char r31) (nar .char r40))) + (own_con (4 : Int32) sa (5 : Int32) (nar .char r40) (nar .char r49))))]) rfl ?_
      show Steps p.tables e below (T410.setTop (mkF m 226 #[.val (.int p1), .val (.int p2), .val (.int p3), .val (.int p4), .val (.int p5), .val (.int p6), .val (.int (5 : Int32)), .val (.int sa), .val (.int cp), .val (.ref b8), .val (.ref b57), .val (.int (((((own_con (0 : Int32) sa (5 : Int32) 0 (nar .char r13)) + (own_con (1 : Int32) sa (5 : Int32) (nar .char r13) (nar .char r22))) + (own_con (2 : Int32) sa (5 : Int32) (nar .char r22) (nar .char r31))) + (own_con (3 : Int32) sa (5 : Int32) (nar .char r31) (nar .char r40))) + (own_con (4 : Int32) sa (5 : Int32) (nar .char r40) (nar .char r49))))] [])) _
      refine XS.aload X410.here hx rfl (hb hby at_226) rfl rfl ?_
      show Steps p.tables e below (T410.setTop (mkF m 228 #[.val (.int p1), .val (.int p2), .val (.int p3), .val (.int p4), .val (.int p5), .val (.int p6), .val (.int (5 : Int32)), .val (.int sa), .val (.int cp), .val (.ref b8), .val (.ref b57), .val (.int (((((own_con (0 : Int32) sa (5 : Int32) 0 (nar .char r13)) + (own_con (1 : Int32) sa (5 : Int32) (nar .char r13) (nar .char r22))) + (own_con (2 : Int32) sa (5 : Int32) (nar .char r22) (nar .char r31))) + (own_con (3 : Int32) sa (5 : Int32) (nar .char r31) (nar .char r40))) + (own_con (4 : Int32) sa (5 : Int32) (nar .char r40) (nar .char r49))))] [(.ref b57)])) _
      refine XS.iload X410.here hx rfl (hb hby at_228) rfl ?_
      show Steps p.tables e below (T410.setTop (mkF m 230 #[.val (.int p1), .val (.int p2), .val (.int p3), .val (.int p4), .val (.int p5), .val (.int p6), .val (.int (5 : Int32)), .val (.int sa), .val (.int cp), .val (.ref b8), .val (.ref b57), .val (.int (((((own_con (0 : Int32) sa (5 : Int32) 0 (nar .char r13)) + (own_con (1 : Int32) sa (5 : Int32) (nar .char r13) (nar .char r22))) + (own_con (2 : Int32) sa (5 : Int32) (nar .char r22) (nar .char r31))) + (own_con (3 : Int32) sa (5 : Int32) (nar .char r31) (nar .char r40))) + (own_con (4 : Int32) sa (5 : Int32) (nar .char r40) (nar .char r49))))] [(.int sa), (.ref b57)])) _
      exact k
    obtain ⟨hp, hse⟩ := own_hp (by decide) hsa hz380.1
    have hf : ∀ j : Nat, j < (sa + ((5 : Int32) - sa)).toNatClampNeg → vs380.getD j (Value.int (0 : Int32)) = .int ((fun j => ([(nar .char r13), (nar .char r22), (nar .char r31), (nar .char r40), (nar .char r49)] : List Int32).getD j 0) j) := fun j hj => by
      rw [hse] at hj
      have hj' : j < 5 := hj
      match j, hj' with
      | 0, _ => exact ct387.trans (congrArg Value.int (own_nar _))
      | 1, _ => exact ct388.trans (congrArg Value.int (own_nar _))
      | 2, _ => exact ct389.trans (congrArg Value.int (own_nar _))
      | 3, _ => exact ct390.trans (congrArg Value.int (own_nar _))
      | 4, _ => exact ct391.trans (congrArg Value.int (own_nar _))
      | j + 5, h => exact absurd h (by omega)
    obtain ⟨cq414, kq414, q414a, q414b, q414c⟩ := isOf hZ e410 E380'
    obtain ⟨_, _, ⟨T414, L414, kk414, nn414⟩, -, X414, ⟨Lc414, hQ414, lq414, yq414, zq414⟩, st414⟩ := X410.virtualBack hx (y := (⟨"org/arborlog/pattern/LineText", "codePointCount", "(I)I"⟩ : MethodName)) (z := (⟨"org/arborlog/pattern/LineText", "codePointCount", "(I)I"⟩ : MethodName)) hown (mvT hZ (hw _ (List.mem_of_getElem? (i := 51) rfl))) (mvT hZ (hw _ (List.mem_of_getElem? (i := 52) rfl))) (notFace_of_selects (args := #[]) (mvT hZ (hw _ (List.mem_of_getElem? (i := 54) rfl)))) (mvT hZ (hw _ (List.mem_of_getElem? (i := 54) rfl))) (mvT hZ (hw _ (List.mem_of_getElem? (i := 53) rfl))) (by decide) (backOf (W := 0) (rm11 l Z a0 hw [] b57 sa b380 (5 : Int32) kb380 zb380 vs380 (fun j => ([(nar .char r13), (nar .char r22), (nar .char r31), (nar .char r40), (nar .char r49)] : List Int32).getD j 0) T380.heap n0 Z384 Fc380 f386 Vb380 hp hf) hZ (hw _ (List.mem_of_getElem? (i := 55) rfl)) (hw _ (List.mem_of_getElem? (i := 10) rfl)) (by decide) (by decide)) q414a q414c (g := (mkF m 230 #[.val (.int p1), .val (.int p2), .val (.int p3), .val (.int p4), .val (.int p5), .val (.int p6), .val (.int (5 : Int32)), .val (.int sa), .val (.int cp), .val (.ref b8), .val (.ref b57), .val (.int (((((own_con (0 : Int32) sa (5 : Int32) 0 (nar .char r13)) + (own_con (1 : Int32) sa (5 : Int32) (nar .char r13) (nar .char r22))) + (own_con (2 : Int32) sa (5 : Int32) (nar .char r22) (nar .char r31))) + (own_con (3 : Int32) sa (5 : Int32) (nar .char r31) (nar .char r40))) + (own_con (4 : Int32) sa (5 : Int32) (nar .char r40) (nar .char r49))))] [(.int sa), (.ref b57)])) rfl (by rw [hml]; rfl) (Steps.refl _) (argsL := [(.int sa)]) (rest := []) (lenOf pd_9 rfl) rfl (by show 2 * 0 + _ ≤ _; exact Nat.le_of_eq rfl) (hb hby at_230) (fun _ _ => ⟨rfl, e410, (by decide : 8 + 0 ≤ _), (by decide : 65 + 0 ≤ _)⟩)
    dsimp only [Pt.U, Pt.locs, Pt.cells, Pt.slots] at X414 lq414 yq414 zq414 st414 hQ414
    subst lq414 yq414 zq414
    obtain ⟨rfl, Nq414, e414⟩ := hQ414
    have N415 := Fr.app N411 Nq414
    have K416 : ∀ t, Steps p.tables e below (T414.setTop (mkF m 233 #[.val (.int p1), .val (.int p2), .val (.int p3), .val (.int p4), .val (.int p5), .val (.int p6), .val (.int (5 : Int32)), .val (.int sa), .val (.int cp), .val (.ref b8), .val (.ref b57), .val (.int (((((own_con (0 : Int32) sa (5 : Int32) 0 (nar .char r13)) + (own_con (1 : Int32) sa (5 : Int32) (nar .char r13) (nar .char r22))) + (own_con (2 : Int32) sa (5 : Int32) (nar .char r22) (nar .char r31))) + (own_con (3 : Int32) sa (5 : Int32) (nar .char r31) (nar .char r40))) + (own_con (4 : Int32) sa (5 : Int32) (nar .char r40) (nar .char r49))))] [(.int (((5 : Int32) - sa) - own_pr (fun j => ([(nar .char r13), (nar .char r22), (nar .char r31), (nar .char r40), (nar .char r49)] : List Int32).getD j 0) ((5 : Int32) - sa).toNatClampNeg sa.toNatClampNeg))])) t → Steps p.tables e below G t := fun t k => K413 t (st414.trans k)
    have hfin : (((5 : Int32) - sa) - own_pr (fun j => ([(nar .char r13), (nar .char r22), (nar .char r31), (nar .char r40), (nar .char r49)] : List Int32).getD j 0) ((5 : Int32) - sa).toNatClampNeg sa.toNatClampNeg) = (((((own_con (0 : Int32) sa (5 : Int32) 0 (nar .char r13)) + (own_con (1 : Int32) sa (5 : Int32) (nar .char r13) (nar .char r22))) + (own_con (2 : Int32) sa (5 : Int32) (nar .char r22) (nar .char r31))) + (own_con (3 : Int32) sa (5 : Int32) (nar .char r31) (nar .char r40))) + (own_con (4 : Int32) sa (5 : Int32) (nar .char r40) (nar .char r49))) := by
      rcases own_n6 (n := sa) ⟨hsa.1, Int.le_trans hsa.2 (by decide)⟩ with q | q | q | q | q | q <;> rw [q] at hsa ⊢
      · exact own_fin_5_0 _ _ _ _ _ _ rfl rfl rfl rfl rfl
      · exact own_fin_5_1 _ _ _ _ _ _ rfl rfl rfl rfl rfl
      · exact own_fin_5_2 _ _ _ _ _ _ rfl rfl rfl rfl rfl
      · exact own_fin_5_3 _ _ _ _ _ _ rfl rfl rfl rfl rfl
      · exact own_fin_5_4 _ _ _ _ _ _ rfl rfl rfl rfl rfl
      · exact own_fin_5_5 _ _ _ _ _ _ rfl rfl rfl rfl rfl
    obtain ⟨fs, hr, hrun, hended, hW, hsame⟩ := X414.leave (v := some (.int (1 : Int32))) (fun h => by rw [Bd.returns] at h; cases h)
    have KF := K416
    rw [hG] at KF
    refine ⟨_, _, KF _ ?_, hrun, hended, _, _, rfl, ?_, ⟨_, rfl⟩, hW, hsame.mono (by decide) (by decide)⟩
    · show Steps p.tables e below (T414.setTop (mkF m 233 #[.val (.int p1), .val (.int p2), .val (.int p3), .val (.int p4), .val (.int p5), .val (.int p6), .val (.int (5 : Int32)), .val (.int sa), .val (.int cp), .val (.ref b8), .val (.ref b57), .val (.int (((((own_con (0 : Int32) sa (5 : Int32) 0 (nar .char r13)) + (own_con (1 : Int32) sa (5 : Int32) (nar .char r13) (nar .char r22))) + (own_con (2 : Int32) sa (5 : Int32) (nar .char r22) (nar .char r31))) + (own_con (3 : Int32) sa (5 : Int32) (nar .char r31) (nar .char r40))) + (own_con (4 : Int32) sa (5 : Int32) (nar .char r40) (nar .char r49))))] [(.int (((5 : Int32) - sa) - own_pr (fun j => ([(nar .char r13), (nar .char r22), (nar .char r31), (nar .char r40), (nar .char r49)] : List Int32).getD j 0) ((5 : Int32) - sa).toNatClampNeg sa.toNatClampNeg))])) _
      refine XS.iload X414.here hx rfl (hb hby at_233) rfl ?_
      show Steps p.tables e below (T414.setTop (mkF m 235 #[.val (.int p1), .val (.int p2), .val (.int p3), .val (.int p4), .val (.int p5), .val (.int p6), .val (.int (5 : Int32)), .val (.int sa), .val (.int cp), .val (.ref b8), .val (.ref b57), .val (.int (((((own_con (0 : Int32) sa (5 : Int32) 0 (nar .char r13)) + (own_con (1 : Int32) sa (5 : Int32) (nar .char r13) (nar .char r22))) + (own_con (2 : Int32) sa (5 : Int32) (nar .char r22) (nar .char r31))) + (own_con (3 : Int32) sa (5 : Int32) (nar .char r31) (nar .char r40))) + (own_con (4 : Int32) sa (5 : Int32) (nar .char r40) (nar .char r49))))] [(.int (((((own_con (0 : Int32) sa (5 : Int32) 0 (nar .char r13)) + (own_con (1 : Int32) sa (5 : Int32) (nar .char r13) (nar .char r22))) + (own_con (2 : Int32) sa (5 : Int32) (nar .char r22) (nar .char r31))) + (own_con (3 : Int32) sa (5 : Int32) (nar .char r31) (nar .char r40))) + (own_con (4 : Int32) sa (5 : Int32) (nar .char r40) (nar .char r49)))), (.int (((5 : Int32) - sa) - own_pr (fun j => ([(nar .char r13), (nar .char r22), (nar .char r31), (nar .char r40), (nar .char r49)] : List Int32).getD j 0) ((5 : Int32) - sa).toNatClampNeg sa.toNatClampNeg))])) _
      refine XS.icmpNo X414.here hx rfl (hb hby at_235) rfl (teq hfin).2 ?_
      show Steps p.tables e below (T414.setTop (mkF m 238 #[.val (.int p1), .val (.int p2), .val (.int p3), .val (.int p4), .val (.int p5), .val (.int p6), .val (.int (5 : Int32)), .val (.int sa), .val (.int cp), .val (.ref b8), .val (.ref b57), .val (.int (((((own_con (0 : Int32) sa (5 : Int32) 0 (nar .char r13)) + (own_con (1 : Int32) sa (5 : Int32) (nar .char r13) (nar .char r22))) + (own_con (2 : Int32) sa (5 : Int32) (nar .char r22) (nar .char r31))) + (own_con (3 : Int32) sa (5 : Int32) (nar .char r31) (nar .char r40))) + (own_con (4 : Int32) sa (5 : Int32) (nar .char r40) (nar .char r49))))] [])) _
      refine XS.iconst X414.here hx rfl (hb hby at_238) ?_
      show Steps p.tables e below (T414.setTop (mkF m 239 #[.val (.int p1), .val (.int p2), .val (.int p3), .val (.int p4), .val (.int p5), .val (.int p6), .val (.int (5 : Int32)), .val (.int sa), .val (.int cp), .val (.ref b8), .val (.ref b57), .val (.int (((((own_con (0 : Int32) sa (5 : Int32) 0 (nar .char r13)) + (own_con (1 : Int32) sa (5 : Int32) (nar .char r13) (nar .char r22))) + (own_con (2 : Int32) sa (5 : Int32) (nar .char r22) (nar .char r31))) + (own_con (3 : Int32) sa (5 : Int32) (nar .char r31) (nar .char r40))) + (own_con (4 : Int32) sa (5 : Int32) (nar .char r40) (nar .char r49))))] [(.int (1 : Int32))])) _
      refine XS.goto X414.here hx rfl (pc0 := 239) (pc' := 243) rfl (hb hby at_239) (by decide) (by decide) ?_
      show Steps p.tables e below (T414.setTop (mkF m 243 #[.val (.int p1), .val (.int p2), .val (.int p3), .val (.int p4), .val (.int p5), .val (.int p6), .val (.int (5 : Int32)), .val (.int sa), .val (.int cp), .val (.ref b8), .val (.ref b57), .val (.int (((((own_con (0 : Int32) sa (5 : Int32) 0 (nar .char r13)) + (own_con (1 : Int32) sa (5 : Int32) (nar .char r13) (nar .char r22))) + (own_con (2 : Int32) sa (5 : Int32) (nar .char r22) (nar .char r31))) + (own_con (3 : Int32) sa (5 : Int32) (nar .char r31) (nar .char r40))) + (own_con (4 : Int32) sa (5 : Int32) (nar .char r40) (nar .char r49))))] [(.int (1 : Int32))])) _
      exact retN X414 hx (t := .boolean) Bd.returns (by simp) (hb hby at_243) hr
    · show Q0 n0 _ T414.heap _
      rw [e414]
      exact ⟨rfl, N415⟩
set_option maxRecDepth 65536 in
set_option maxHeartbeats 40000000 in
theorem comes_1 {Post : Tables → Env → Array Value → State → Outcome → State → Prop} (hpost : ∀ tb e args s v u, (limb_1_1.after args s (.returned v) u = true ∧ limb_1_2.after args s (.returned v) u = true ∧ True) → FrameEnd s (.returned v) u (Jvm.fieldLocs frame_1_writes args s ++ Jvm.arrayLocs frame_1_arrays args s ++ Jvm.staticLocs frame_1_statics s) 24 128 → Post tb e args s (.returned v) u) :
    ArmFor flags0 classFile x code maxLocals ret World_1 tables_1 room_1 Calls_1 rest_1 Pre_1 Post := by
  intro l hfl _ _ p e ha hc hk s m args below hf hA hF happ hP
  obtain ⟨hcalls, hrest, hpre⟩ := hP
  obtain ⟨-, -, -, hnamed, -, -, -, hat⟩ := (Spec.applies_iff hf).mp happ
  obtain ⟨hg, hn⟩ := and_e (Cond.before_iff.mp (show (Jvm.Cond.and given_1 narrow_1).before args s = true from hpre))
  obtain ⟨gc, gr0⟩ := and_e hg
  obtain ⟨ga0, gr1⟩ := and_e gr0
  obtain ⟨ga1, gr2⟩ := and_e gr1
  obtain ⟨ga2, gr3⟩ := and_e gr2
  obtain ⟨ga3, gr4⟩ := and_e gr3
  obtain ⟨ga4, gr5⟩ := and_e gr4
  have ga5 := gr5
  obtain ⟨w0, w1, w2, w3, w4, w5, rfl⟩ : ∃ w0 w1 w2 w3 w4 w5 : Value, args = #[w0, w1, w2, w3, w4, w5] := by
    have hs : args.size = 6 := by simpa [Cond.value, given_1] using gc
    obtain ⟨L⟩ := args
    match L, hs with
    | [w0, w1, w2, w3, w4, w5], _ => exact ⟨w0, w1, w2, w3, w4, w5, rfl⟩
  have hw := fun d (hd : d ∈ tables_1) => atoms_spec (ws := Jvm.Cond.code x code maxLocals ret :: tables_1) hat d (List.mem_cons_of_mem _ hd)
  have hfit : Fit s := fun {y c} hc i hi => by
    obtain ⟨ha, rfl⟩ := Array.getElem?_eq_some_iff.mp hc
    have q := List.all_eq_true.mp ((Array.all_eq_true_iff_forall_mem.mp hF) _ (Array.getElem_mem ha)) i (List.mem_range.mpr hi)
    simpa [Array.getElem?_eq_getElem hi] using q
  obtain ⟨i0, ei0⟩ := is_v ga0
  obtain rfl : w0 = (.int i0) := Option.some.inj ei0
  obtain ⟨i1, ei1⟩ := is_v ga1
  obtain rfl : w1 = (.int i1) := Option.some.inj ei1
  obtain ⟨i2, ei2⟩ := is_v ga2
  obtain rfl : w2 = (.int i2) := Option.some.inj ei2
  obtain ⟨i3, ei3⟩ := is_v ga3
  obtain rfl : w3 = (.int i3) := Option.some.inj ei3
  obtain ⟨i4, ei4⟩ := is_v ga4
  obtain rfl : w4 = (.int i4) := Option.some.inj ei4
  obtain ⟨i5, ei5⟩ := is_v ga5
  obtain rfl : w5 = (.int i5) := Option.some.inj ei5
  obtain ⟨n, o, h1, h2, h3, _, L, rfl, ⟨rfl, N⟩, hq⟩ := rm0 l s _ hw tables_1 i0 i1 i2 i3 i4 i5  s.heap s.heap.size (Nat.le_refl _)  p e ha hc hk s m _ below hf ((Spec.applies_iff_loose hf).mp happ).1 ⟨rfl, State.Warmed39.refl s, rfl⟩ trivial
  refine ⟨n, _, h1, h2, h3, hpost _ _ _ _ _ _ ⟨Cond.after_iff.mpr rfl, Cond.after_iff.mpr (eq_i res_at (Term.int_eval (1)) rfl), trivial⟩ ⟨hq.1, hq.2.1, (hq.2.2.sift fun y hy => Or.inr (N y hy)).mono (by decide) (by decide)⟩⟩
theorem main_1_1 : Claimed_1_1 := comes_1 fun _ _ _ _ _ _ h hF => ⟨h.1, hF⟩
theorem main_1_2 : Claimed_1_2 := comes_1 fun _ _ _ _ _ _ h hF => ⟨h.2.1, hF⟩
end Jvm.Pilot.@@N@@
namespace Jvm.Pilot.@@N@@
open Jvm Jvm.ClassFile Sem Op Lib Jvm.Free Jvm.Stand Jvm.Pilot.@@N@@.Jvm.D
/-! MADE BY PROGRAM (witnessworld.py) out of the Statement's table words and the real class files: 19 classes; the members and pool entries that the words name. The judged class is class 1, her method 5. -/
namespace start1
open Jvm.ClassFile
def u (s : String) : CpInfo := .utf8 (stringToUtf16 s)
/-- a pool by its gaps: so many unusable entries, then the entry; so many at the end -/
def gap : Nat → List CpInfo → List CpInfo
  | 0, r => r
  | n + 1, r => .unusable :: gap n r
def poolList (es : List (Nat × CpInfo)) (last : Nat) : List CpInfo := es.foldr (fun e r => gap e.1 (e.2 :: r)) (gap last [])
def pool (es : List (Nat × CpInfo)) (last : Nat) : Array CpInfo := ⟨poolList es last⟩
def fileOf (pool : Array CpInfo) (this : Nat) (attrs : Array Attribute := #[]) (ms : Array MethodInfo := #[]) (fl : Nat := 33) (sup : Nat := 0) (ifs : Array Nat := #[]) (fds : Array FieldInfo := #[]) : ClassFile where
  minorVersion := 0
  majorVersion := 65
  constantPool := pool
  accessFlags := fl
  thisClass := this
  superClass := sup
  interfaces := ifs
  fields := fds
  methods := ms
  attributes := attrs
def plain (name : String) (sup : Option ClassId) : Class where
  name := name
  kind := .ordinary
  loader := none
  accessFlags := 33
  super := sup
  interfaces := #[]
  cf := none
  fields := #[]
  methods := #[]
  instanceTypes := #[]
  staticTypes := #[]
  resolved := #[]
  callSites := []
  init := .initialized
  statics := none
  mirror := none

def pool0 : Array CpInfo := pool [(5, u "<init>"), (0, u "()V"), (1, .class_ 10), (1, u "java/lang/Object")] 113

def k0c0 : Code := { maxStack := 0, maxLocals := 1, code := object_method_1_code, exceptionTable := #[], attributes := #[] }
def k0m0 : Method := { name := "<init>", desc := "()V", sig := { parameters := [], returnType := none }, accessFlags := 1, code := some k0c0 }
/-- java/lang/Object -/
def k0 : Class := { plain "java/lang/Object" none with
  accessFlags := 33
  interfaces := #[]
  cf := some (fileOf pool0 8 #[] #[{ accessFlags := 1, nameIndex := 5, descriptorIndex := 6, attributes := #[] }] 33 0 #[] #[])
  fields := #[]
  methods := #[k0m0]
  instanceTypes := #[]
  staticTypes := #[]
  resolved := Array.replicate 124 none
  statics := none }

def pool1 : Array CpInfo := pool [(2, .class_ 4), (1, u "java/lang/Object"), (0, u "<init>"), (0, u "()V"), (0, .integer 55296), (0, .integer 56320), (0, .integer 55295), (0, .integer 57344), (0, .integer 56319), (0, .integer 57343), (0, .methodref 14 15), (0, .class_ 16), (0, .nameAndType 17 18), (0, u "org/arborlog/pattern/LineTextCodePointCountPinLaw"), (0, u "high"), (0, u "(C)Z"), (0, .methodref 14 20), (0, .nameAndType 21 18), (0, u "low"), (0, .methodref 14 23), (0, .nameAndType 24 25), (0, u "draw"), (0, u "(I)C"), (0, .class_ 27), (0, u "org/arborlog/pattern/LineText"), (0, .methodref 26 29), (0, .nameAndType 5 30), (0, u "(I)V"), (0, .methodref 26 32), (0, .nameAndType 33 34), (0, u "append"), (0, u "(C)Lorg/arborlog/pattern/LineText;"), (0, .methodref 14 36), (0, .nameAndType 37 38), (0, u "contrib"), (0, u "([CIII)I"), (0, .methodref 26 40), (0, .nameAndType 41 42), (0, u "codePointCount"), (0, u "(I)I"), (3, u "law"), (0, u "(IIIIII)Z")] 4

def k1m0 : Method := { name := "<init>", desc := "()V", sig := { parameters := [], returnType := none }, accessFlags := 2, code := none }
def k1c1 : Code := { maxStack := 3, maxLocals := 4, code := method_2_code, exceptionTable := #[], attributes := #[] }
def k1m1 : Method := { name := "draw", desc := "(I)C", sig := { parameters := [.int], returnType := some .char }, accessFlags := 10, code := some k1c1 }
def k1c2 : Code := { maxStack := 2, maxLocals := 1, code := method_3_code, exceptionTable := #[], attributes := #[] }
def k1m2 : Method := { name := "high", desc := "(C)Z", sig := { parameters := [.char], returnType := some .boolean }, accessFlags := 10, code := some k1c2 }
def k1c3 : Code := { maxStack := 2, maxLocals := 1, code := method_4_code, exceptionTable := #[], attributes := #[] }
def k1m3 : Method := { name := "low", desc := "(C)Z", sig := { parameters := [.char], returnType := some .boolean }, accessFlags := 10, code := some k1c3 }
def k1c4 : Code := { maxStack := 3, maxLocals := 4, code := method_5_code, exceptionTable := #[], attributes := #[] }
def k1m4 : Method := { name := "contrib", desc := "([CIII)I", sig := { parameters := [(.array .char), .int, .int, .int], returnType := some .int }, accessFlags := 10, code := some k1c4 }
def k1c5 : Code := { maxStack := 5, maxLocals := 12, code := code, exceptionTable := #[], attributes := #[] }
def k1m5 : Method := { name := "law", desc := "(IIIIII)Z", sig := { parameters := [.int, .int, .int, .int, .int, .int], returnType := some .boolean }, accessFlags := 9, code := some k1c5 }
/-- org/arborlog/pattern/LineTextCodePointCountPinLaw -/
def k1 : Class := { plain "org/arborlog/pattern/LineTextCodePointCountPinLaw" (some 0) with
  accessFlags := 49
  interfaces := #[]
  cf := some (fileOf pool1 14 #[] #[{ accessFlags := 2, nameIndex := 5, descriptorIndex := 6, attributes := #[] }, { accessFlags := 10, nameIndex := 24, descriptorIndex := 25, attributes := #[] }, { accessFlags := 10, nameIndex := 17, descriptorIndex := 18, attributes := #[] }, { accessFlags := 10, nameIndex := 21, descriptorIndex := 18, attributes := #[] }, { accessFlags := 10, nameIndex := 37, descriptorIndex := 38, attributes := #[] }, { accessFlags := 9, nameIndex := 46, descriptorIndex := 47, attributes := #[] }] 49 2 #[] #[])
  fields := #[]
  methods := #[k1m0, k1m1, k1m2, k1m3, k1m4, k1m5]
  instanceTypes := #[]
  staticTypes := #[]
  resolved := Array.replicate 52 none
  statics := none }

def pool2 : Array CpInfo := pool [(1, .methodref 2 3), (0, .class_ 4), (0, .nameAndType 5 6), (0, u "java/lang/Object"), (0, u "<init>"), (0, u "()V"), (0, .fieldref 8 9), (0, .class_ 10), (0, .nameAndType 11 12), (0, u "org/arborlog/pattern/LineText"), (0, u "chars"), (0, u "[C"), (0, .fieldref 8 14), (0, .nameAndType 15 16), (0, u "length"), (0, u "I"), (7, .methodref 8 25), (0, .nameAndType 26 27), (0, u "ensureCapacity"), (0, u "(I)V"), (12, u "append"), (7, .methodref 49 50), (0, .class_ 51), (0, .nameAndType 52 53), (0, u "java/lang/Character"), (0, u "codePointCount"), (0, u "([CII)I"), (11, .methodref 66 67), (0, .class_ 68), (0, .nameAndType 69 70), (0, u "java/lang/Math"), (0, u "max"), (0, u "(II)I"), (0, .methodref 72 73), (0, .class_ 74), (0, .nameAndType 75 76), (0, u "java/util/Arrays"), (0, u "copyOf"), (0, u "([CI)[C"), (9, u "(C)Lorg/arborlog/pattern/LineText;"), (6, u "(I)I")] 3

def k2c0 : Code := { maxStack := 2, maxLocals := 2, code := prog_20_method_1_code, exceptionTable := #[], attributes := #[] }
def k2m0 : Method := { name := "<init>", desc := "(I)V", sig := { parameters := [.int], returnType := none }, accessFlags := 1, code := some k2c0 }
def k2c1 : Code := { maxStack := 5, maxLocals := 2, code := prog_20_method_7_code, exceptionTable := #[], attributes := #[] }
def k2m1 : Method := { name := "append", desc := "(C)Lorg/arborlog/pattern/LineText;", sig := { parameters := [.char], returnType := some (.object "org/arborlog/pattern/LineText") }, accessFlags := 1, code := some k2c1 }
def k2c2 : Code := { maxStack := 4, maxLocals := 2, code := prog_20_method_12_code, exceptionTable := #[], attributes := #[] }
def k2m2 : Method := { name := "codePointCount", desc := "(I)I", sig := { parameters := [.int], returnType := some .int }, accessFlags := 0, code := some k2c2 }
def k2c3 : Code := { maxStack := 5, maxLocals := 2, code := prog_20_method_14_code, exceptionTable := #[], attributes := #[] }
def k2m3 : Method := { name := "ensureCapacity", desc := "(I)V", sig := { parameters := [.int], returnType := none }, accessFlags := 2, code := some k2c3 }
/-- org/arborlog/pattern/LineText -/
def k2 : Class := { plain "org/arborlog/pattern/LineText" (some 0) with
  accessFlags := 49
  interfaces := #[]
  cf := some (fileOf pool2 8 #[] #[{ accessFlags := 1, nameIndex := 5, descriptorIndex := 27, attributes := #[] }, { accessFlags := 1, nameIndex := 40, descriptorIndex := 86, attributes := #[] }, { accessFlags := 0, nameIndex := 52, descriptorIndex := 93, attributes := #[] }, { accessFlags := 2, nameIndex := 26, descriptorIndex := 27, attributes := #[] }] 49 2 #[] #[{ accessFlags := 2, nameIndex := 11, descriptorIndex := 12, attributes := #[] }, { accessFlags := 2, nameIndex := 15, descriptorIndex := 16, attributes := #[] }])
  fields := #[{ name := "chars", type := (.array .char), accessFlags := 2, slot := 0, constantValue := 0 }, { name := "length", type := .int, accessFlags := 2, slot := 1, constantValue := 0 }]
  methods := #[k2m0, k2m1, k2m2, k2m3]
  instanceTypes := #[(.array .char), .int]
  staticTypes := #[]
  resolved := Array.replicate 97 none
  statics := none }

def pool3 : Array CpInfo := pool [(1, .class_ 2), (0, u "java/lang/Math"), (1, .class_ 6), (1, u "java/lang/Object"), (0, u "<init>"), (0, u "()V"), (89, .class_ 100), (1, u "java/lang/Math$RandomNumberGeneratorHolder"), (71, u "negativeZeroFloatBits"), (0, u "J"), (2, u "negativeZeroDoubleBits"), (21, u "max"), (2, u "min"), (43, u "$assertionsDisabled"), (0, u "Z"), (88, u "(II)I"), (2, u "twoToTheDoubleScaleDown"), (0, u "D"), (4, u "twoToTheDoubleScaleUp"), (9, u "E"), (3, u "PI"), (2, u "TAU"), (2, u "DEGREES_TO_RADIANS"), (0, u "RADIANS_TO_DEGREES")] 94

def k3m0 : Method := { name := "<init>", desc := "()V", sig := { parameters := [], returnType := none }, accessFlags := 2, code := none }
def k3c1 : Code := { maxStack := 2, maxLocals := 2, code := jdk_29_method_65_code, exceptionTable := #[], attributes := #[] }
def k3m1 : Method := { name := "max", desc := "(II)I", sig := { parameters := [.int, .int], returnType := some .int }, accessFlags := 9, code := some k3c1 }
def k3c2 : Code := { maxStack := 2, maxLocals := 2, code := jdk_29_method_69_code, exceptionTable := #[], attributes := #[] }
def k3m2 : Method := { name := "min", desc := "(II)I", sig := { parameters := [.int, .int], returnType := some .int }, accessFlags := 9, code := some k3c2 }
/-- java/lang/Math -/
def k3 : Class := { plain "java/lang/Math" (some 0) with
  accessFlags := 49
  interfaces := #[]
  cf := some (fileOf pool3 1 #[.nestMembers #[98]] #[{ accessFlags := 2, nameIndex := 7, descriptorIndex := 8, attributes := #[] }, { accessFlags := 9, nameIndex := 198, descriptorIndex := 335, attributes := #[] }, { accessFlags := 9, nameIndex := 201, descriptorIndex := 335, attributes := #[] }] 49 4 #[] #[{ accessFlags := 25, nameIndex := 354, descriptorIndex := 339, attributes := #[] }, { accessFlags := 25, nameIndex := 358, descriptorIndex := 339, attributes := #[] }, { accessFlags := 25, nameIndex := 361, descriptorIndex := 339, attributes := #[] }, { accessFlags := 26, nameIndex := 364, descriptorIndex := 339, attributes := #[] }, { accessFlags := 26, nameIndex := 365, descriptorIndex := 339, attributes := #[] }, { accessFlags := 26, nameIndex := 172, descriptorIndex := 173, attributes := #[] }, { accessFlags := 26, nameIndex := 176, descriptorIndex := 173, attributes := #[] }, { accessFlags := 8, nameIndex := 344, descriptorIndex := 339, attributes := #[] }, { accessFlags := 8, nameIndex := 338, descriptorIndex := 339, attributes := #[] }, { accessFlags := 4120, nameIndex := 245, descriptorIndex := 246, attributes := #[] }])
  fields := #[{ name := "E", type := .double, accessFlags := 25, slot := 0, constantValue := 0 }, { name := "PI", type := .double, accessFlags := 25, slot := 1, constantValue := 0 }, { name := "TAU", type := .double, accessFlags := 25, slot := 2, constantValue := 0 }, { name := "DEGREES_TO_RADIANS", type := .double, accessFlags := 26, slot := 3, constantValue := 0 }, { name := "RADIANS_TO_DEGREES", type := .double, accessFlags := 26, slot := 4, constantValue := 0 }, { name := "negativeZeroFloatBits", type := .long, accessFlags := 26, slot := 5, constantValue := 0 }, { name := "negativeZeroDoubleBits", type := .long, accessFlags := 26, slot := 6, constantValue := 0 }, { name := "twoToTheDoubleScaleUp", type := .double, accessFlags := 8, slot := 7, constantValue := 0 }, { name := "twoToTheDoubleScaleDown", type := .double, accessFlags := 8, slot := 8, constantValue := 0 }, { name := "$assertionsDisabled", type := .boolean, accessFlags := 4120, slot := 9, constantValue := 0 }]
  methods := #[k3m0, k3m1, k3m2]
  instanceTypes := #[]
  staticTypes := #[.double, .double, .double, .double, .double, .long, .long, .double, .double, .boolean]
  resolved := Array.replicate 460 none
  statics := none }

def pool4 : Array CpInfo := pool [(2, .class_ 4), (1, u "java/lang/Object"), (0, u "<init>"), (0, u "()V"), (7, .class_ 16), (1, u "java/util/Arrays"), (57, .class_ 76), (1, u "java/util/Arrays$NaturalOrder"), (36, .class_ 115), (1, u "java/util/Arrays$LegacyMergeSort"), (1, u "Z"), (32, .methodref 151 152), (0, .class_ 153), (0, .nameAndType 154 155), (0, u "java/lang/System"), (0, u "arraycopy"), (0, u "(Ljava/lang/Object;ILjava/lang/Object;II)V"), (146, u "copyOf"), (1, .methodref 305 306), (0, .class_ 307), (0, .nameAndType 308 309), (0, u "java/lang/Math"), (0, u "min"), (0, u "(II)I"), (65, .class_ 376), (0, u "java/util/Arrays$ArrayList"), (68, u "$assertionsDisabled"), (269, u "MIN_ARRAY_SORT_GRAN"), (0, u "I"), (2, u "INSERTIONSORT_THRESHOLD"), (153, u "([CI)[C"), (101, .class_ 976), (0, u "java/util/Arrays$ArrayItr")] 52

def k4m0 : Method := { name := "<init>", desc := "()V", sig := { parameters := [], returnType := none }, accessFlags := 2, code := none }
def k4c1 : Code := { maxStack := 6, maxLocals := 3, code := jdk_65_method_125_code, exceptionTable := #[], attributes := #[] }
def k4m1 : Method := { name := "copyOf", desc := "([CI)[C", sig := { parameters := [(.array .char), .int], returnType := some (.array .char) }, accessFlags := 9, code := some k4c1 }
/-- java/util/Arrays -/
def k4 : Class := { plain "java/util/Arrays" (some 0) with
  accessFlags := 49
  interfaces := #[]
  cf := some (fileOf pool4 14 #[.nestMembers #[975, 375, 113, 74]] #[{ accessFlags := 2, nameIndex := 5, descriptorIndex := 6, attributes := #[] }, { accessFlags := 9, nameIndex := 302, descriptorIndex := 873, attributes := #[] }] 49 2 #[] #[{ accessFlags := 26, nameIndex := 715, descriptorIndex := 716, attributes := #[] }, { accessFlags := 26, nameIndex := 719, descriptorIndex := 716, attributes := #[] }, { accessFlags := 4120, nameIndex := 445, descriptorIndex := 117, attributes := #[] }])
  fields := #[{ name := "MIN_ARRAY_SORT_GRAN", type := .int, accessFlags := 26, slot := 0, constantValue := 0 }, { name := "INSERTIONSORT_THRESHOLD", type := .int, accessFlags := 26, slot := 1, constantValue := 0 }, { name := "$assertionsDisabled", type := .boolean, accessFlags := 4120, slot := 2, constantValue := 0 }]
  methods := #[k4m0, k4m1]
  instanceTypes := #[]
  staticTypes := #[.int, .int, .boolean]
  resolved := Array.replicate 1029 none
  statics := none }

def pool5 : Array CpInfo := pool [(2, .class_ 4), (1, u "java/lang/Object"), (0, u "<init>"), (0, u "()V"), (1, .class_ 10), (1, u "java/lang/System"), (0, u "allowSecurityManager"), (0, u "I"), (16, u "cons"), (0, u "Ljava/io/Console;"), (77, .class_ 110), (1, u "java/lang/System$CallersHolder"), (43, u "initialErrStream"), (0, u "Ljava/io/PrintStream;"), (19, u "security"), (0, u "Ljava/lang/SecurityManager;"), (31, .class_ 209), (0, u "java/lang/System$1"), (7, u "props"), (0, u "Ljava/util/Properties;"), (2, u "lineSeparator"), (0, u "Ljava/lang/String;"), (96, .class_ 321), (1, u "java/lang/System$LoggerFinder"), (5, .class_ 328), (0, u "java/lang/System$Logger"), (67, u "err"), (2, u "out"), (91, u "notSupportedJnuEncoding"), (15, u "in"), (17, u "initialIn"), (0, u "Ljava/io/InputStream;"), (35, u "bootLayer"), (0, u "Ljava/lang/ModuleLayer;"), (99, .class_ 664), (0, u "java/lang/System$2"), (9, u "NEVER"), (2, u "MAYBE"), (49, u "arraycopy"), (0, u "(Ljava/lang/Object;ILjava/lang/Object;II)V"), (72, .class_ 802), (0, u "java/lang/System$Logger$Level")] 31

def k5m0 : Method := { name := "<init>", desc := "()V", sig := { parameters := [], returnType := none }, accessFlags := 2, code := none }
def k5m1 : Method := { name := "arraycopy", desc := "(Ljava/lang/Object;ILjava/lang/Object;II)V", sig := { parameters := [(.object "java/lang/Object"), .int, (.object "java/lang/Object"), .int, .int], returnType := none }, accessFlags := 265, code := none }
/-- java/lang/System -/
def k5 : Class := { plain "java/lang/System" (some 0) with
  accessFlags := 49
  interfaces := #[]
  cf := some (fileOf pool5 8 #[.nestMembers #[319, 327, 801, 108, 663, 208]] #[{ accessFlags := 2, nameIndex := 5, descriptorIndex := 6, attributes := #[] }, { accessFlags := 265, nameIndex := 727, descriptorIndex := 728, attributes := #[] }] 49 2 #[] #[{ accessFlags := 25, nameIndex := 507, descriptorIndex := 526, attributes := #[] }, { accessFlags := 25, nameIndex := 399, descriptorIndex := 155, attributes := #[] }, { accessFlags := 25, nameIndex := 396, descriptorIndex := 155, attributes := #[] }, { accessFlags := 10, nameIndex := 525, descriptorIndex := 526, attributes := #[] }, { accessFlags := 26, nameIndex := 674, descriptorIndex := 12, attributes := #[] }, { accessFlags := 26, nameIndex := 677, descriptorIndex := 12, attributes := #[] }, { accessFlags := 10, nameIndex := 11, descriptorIndex := 12, attributes := #[] }, { accessFlags := 74, nameIndex := 175, descriptorIndex := 176, attributes := #[] }, { accessFlags := 10, nameIndex := 491, descriptorIndex := 222, attributes := #[] }, { accessFlags := 74, nameIndex := 29, descriptorIndex := 30, attributes := #[] }, { accessFlags := 74, nameIndex := 154, descriptorIndex := 155, attributes := #[] }, { accessFlags := 10, nameIndex := 217, descriptorIndex := 218, attributes := #[] }, { accessFlags := 10, nameIndex := 221, descriptorIndex := 222, attributes := #[] }, { accessFlags := 8, nameIndex := 562, descriptorIndex := 563, attributes := #[] }])
  fields := #[{ name := "in", type := (.object "java/io/InputStream"), accessFlags := 25, slot := 0, constantValue := 0 }, { name := "out", type := (.object "java/io/PrintStream"), accessFlags := 25, slot := 1, constantValue := 0 }, { name := "err", type := (.object "java/io/PrintStream"), accessFlags := 25, slot := 2, constantValue := 0 }, { name := "initialIn", type := (.object "java/io/InputStream"), accessFlags := 10, slot := 3, constantValue := 0 }, { name := "NEVER", type := .int, accessFlags := 26, slot := 4, constantValue := 0 }, { name := "MAYBE", type := .int, accessFlags := 26, slot := 5, constantValue := 0 }, { name := "allowSecurityManager", type := .int, accessFlags := 10, slot := 6, constantValue := 0 }, { name := "security", type := (.object "java/lang/SecurityManager"), accessFlags := 74, slot := 7, constantValue := 0 }, { name := "notSupportedJnuEncoding", type := (.object "java/lang/String"), accessFlags := 10, slot := 8, constantValue := 0 }, { name := "cons", type := (.object "java/io/Console"), accessFlags := 74, slot := 9, constantValue := 0 }, { name := "initialErrStream", type := (.object "java/io/PrintStream"), accessFlags := 74, slot := 10, constantValue := 0 }, { name := "props", type := (.object "java/util/Properties"), accessFlags := 10, slot := 11, constantValue := 0 }, { name := "lineSeparator", type := (.object "java/lang/String"), accessFlags := 10, slot := 12, constantValue := 0 }, { name := "bootLayer", type := (.object "java/lang/ModuleLayer"), accessFlags := 8, slot := 13, constantValue := 0 }]
  methods := #[k5m0, k5m1]
  instanceTypes := #[]
  staticTypes := #[(.object "java/io/InputStream"), (.object "java/io/PrintStream"), (.object "java/io/PrintStream"), (.object "java/io/InputStream"), .int, .int, .int, (.object "java/lang/SecurityManager"), (.object "java/lang/String"), (.object "java/io/Console"), (.object "java/io/PrintStream"), (.object "java/util/Properties"), (.object "java/lang/String"), (.object "java/lang/ModuleLayer")]
  resolved := Array.replicate 834 none
  statics := none }

def pool6 : Array CpInfo := pool [(1, .class_ 2), (0, u "java/io/Serializable"), (0, .class_ 4), (0, u "java/lang/Object")] 2

/-- java/io/Serializable -/
def k6 : Class := { plain "java/io/Serializable" (some 0) with
  accessFlags := 1537
  interfaces := #[]
  cf := some (fileOf pool6 1 #[] #[] 1537 3 #[] #[])
  fields := #[]
  methods := #[]
  instanceTypes := #[]
  staticTypes := #[]
  resolved := Array.replicate 7 none
  statics := none }

def pool7 : Array CpInfo := pool [(1, .class_ 2), (0, u "java/lang/Comparable"), (0, .class_ 4), (0, u "java/lang/Object")] 7

/-- java/lang/Comparable -/
def k7 : Class := { plain "java/lang/Comparable" (some 0) with
  accessFlags := 1537
  interfaces := #[]
  cf := some (fileOf pool7 1 #[] #[] 1537 3 #[] #[])
  fields := #[]
  methods := #[]
  instanceTypes := #[]
  staticTypes := #[]
  resolved := Array.replicate 12 none
  statics := none }

def pool8 : Array CpInfo := pool [(1, .class_ 2), (0, u "java/lang/constant/Constable"), (0, .class_ 4), (0, u "java/lang/Object")] 6

/-- java/lang/constant/Constable -/
def k8 : Class := { plain "java/lang/constant/Constable" (some 0) with
  accessFlags := 1537
  interfaces := #[]
  cf := some (fileOf pool8 1 #[] #[] 1537 3 #[] #[])
  fields := #[]
  methods := #[]
  instanceTypes := #[]
  staticTypes := #[]
  resolved := Array.replicate 11 none
  statics := none }

def pool9 : Array CpInfo := pool [(1, .class_ 2), (0, u "java/lang/Character"), (18, u "value"), (0, u "C"), (19, .class_ 44), (1, u "java/lang/Object"), (3, .class_ 50), (1, u "java/lang/Character$CharacterCache"), (24, .integer 55296), (0, .integer 56320), (0, .integer 57344), (0, .methodref 1 79), (0, .nameAndType 80 81), (0, u "isHighSurrogate"), (0, u "(C)Z"), (0, .methodref 1 83), (0, .nameAndType 84 81), (0, u "isLowSurrogate"), (18, u "([CII)I"), (36, .class_ 142), (1, u "java/util/Objects"), (1, u "(III)I"), (0, .methodref 140 146), (0, .nameAndType 147 144), (0, u "checkFromIndexSize"), (0, .methodref 1 149), (0, .nameAndType 150 103), (0, u "codePointCountImpl"), (133, u "$assertionsDisabled"), (0, u "Z"), (21, .class_ 309), (1, u "java/lang/Character$UnicodeBlock"), (73, u "TYPE"), (0, u "Ljava/lang/Class;"), (0, .class_ 386), (0, u "java/io/Serializable"), (0, .class_ 388), (0, u "java/lang/Comparable"), (0, .class_ 390), (0, u "java/lang/constant/Constable"), (0, u "MIN_RADIX"), (0, u "I"), (2, u "MAX_RADIX"), (1, u "MIN_VALUE"), (1, u "MAX_VALUE"), (3, u "UNASSIGNED"), (0, u "B"), (0, u "UPPERCASE_LETTER"), (1, u "LOWERCASE_LETTER"), (0, u "TITLECASE_LETTER"), (1, u "MODIFIER_LETTER"), (1, u "OTHER_LETTER"), (1, u "NON_SPACING_MARK"), (1, u "ENCLOSING_MARK"), (1, u "COMBINING_SPACING_MARK"), (1, u "DECIMAL_DIGIT_NUMBER"), (1, u "LETTER_NUMBER"), (1, u "OTHER_NUMBER"), (1, u "SPACE_SEPARATOR"), (1, u "LINE_SEPARATOR"), (1, u "PARAGRAPH_SEPARATOR"), (1, u "CONTROL"), (1, u "FORMAT"), (1, u "PRIVATE_USE"), (1, u "SURROGATE"), (1, u "DASH_PUNCTUATION"), (1, u "START_PUNCTUATION"), (1, u "END_PUNCTUATION"), (1, u "CONNECTOR_PUNCTUATION"), (1, u "OTHER_PUNCTUATION"), (1, u "MATH_SYMBOL"), (1, u "CURRENCY_SYMBOL"), (1, u "MODIFIER_SYMBOL"), (1, u "OTHER_SYMBOL"), (1, u "INITIAL_QUOTE_PUNCTUATION"), (1, u "FINAL_QUOTE_PUNCTUATION"), (1, u "ERROR"), (1, u "DIRECTIONALITY_UNDEFINED"), (0, u "DIRECTIONALITY_LEFT_TO_RIGHT"), (0, u "DIRECTIONALITY_RIGHT_TO_LEFT"), (0, u "DIRECTIONALITY_RIGHT_TO_LEFT_ARABIC"), (0, u "DIRECTIONALITY_EUROPEAN_NUMBER"), (0, u "DIRECTIONALITY_EUROPEAN_NUMBER_SEPARATOR"), (0, u "DIRECTIONALITY_EUROPEAN_NUMBER_TERMINATOR"), (0, u "DIRECTIONALITY_ARABIC_NUMBER"), (0, u "DIRECTIONALITY_COMMON_NUMBER_SEPARATOR"), (0, u "DIRECTIONALITY_NONSPACING_MARK"), (0, u "DIRECTIONALITY_BOUNDARY_NEUTRAL"), (0, u "DIRECTIONALITY_PARAGRAPH_SEPARATOR"), (0, u "DIRECTIONALITY_SEGMENT_SEPARATOR"), (0, u "DIRECTIONALITY_WHITESPACE"), (0, u "DIRECTIONALITY_OTHER_NEUTRALS"), (0, u "DIRECTIONALITY_LEFT_TO_RIGHT_EMBEDDING"), (0, u "DIRECTIONALITY_LEFT_TO_RIGHT_OVERRIDE"), (0, u "DIRECTIONALITY_RIGHT_TO_LEFT_EMBEDDING"), (0, u "DIRECTIONALITY_RIGHT_TO_LEFT_OVERRIDE"), (1, u "DIRECTIONALITY_POP_DIRECTIONAL_FORMAT"), (0, u "DIRECTIONALITY_LEFT_TO_RIGHT_ISOLATE"), (0, u "DIRECTIONALITY_RIGHT_TO_LEFT_ISOLATE"), (0, u "DIRECTIONALITY_FIRST_STRONG_ISOLATE"), (0, u "DIRECTIONALITY_POP_DIRECTIONAL_ISOLATE"), (0, u "MIN_HIGH_SURROGATE"), (0, u "MAX_HIGH_SURROGATE"), (1, u "MIN_LOW_SURROGATE"), (0, u "MAX_LOW_SURROGATE"), (1, u "MIN_SURROGATE"), (0, u "MAX_SURROGATE"), (0, u "MIN_SUPPLEMENTARY_CODE_POINT"), (0, u "MIN_CODE_POINT"), (0, u "MAX_CODE_POINT"), (1, u "serialVersionUID"), (0, u "J"), (2, u "SIZE"), (0, u "BYTES"), (48, u "codePointCount"), (39, .class_ 596), (0, u "java/lang/Character$UnicodeScript"), (0, .class_ 598), (0, u "java/lang/Character$Subset")] 5

def k9c0 : Code := { maxStack := 2, maxLocals := 1, code := jdk_89_method_14_code, exceptionTable := #[], attributes := #[] }
def k9m0 : Method := { name := "isHighSurrogate", desc := "(C)Z", sig := { parameters := [.char], returnType := some .boolean }, accessFlags := 9, code := some k9c0 }
def k9c1 : Code := { maxStack := 2, maxLocals := 1, code := jdk_89_method_15_code, exceptionTable := #[], attributes := #[] }
def k9m1 : Method := { name := "isLowSurrogate", desc := "(C)Z", sig := { parameters := [.char], returnType := some .boolean }, accessFlags := 9, code := some k9c1 }
def k9c2 : Code := { maxStack := 3, maxLocals := 3, code := jdk_89_method_34_code, exceptionTable := #[], attributes := #[] }
def k9m2 : Method := { name := "codePointCount", desc := "([CII)I", sig := { parameters := [(.array .char), .int, .int], returnType := some .int }, accessFlags := 9, code := some k9c2 }
def k9c3 : Code := { maxStack := 2, maxLocals := 6, code := jdk_89_method_35_code, exceptionTable := #[], attributes := #[] }
def k9m3 : Method := { name := "codePointCountImpl", desc := "([CII)I", sig := { parameters := [(.array .char), .int, .int], returnType := some .int }, accessFlags := 8, code := some k9c3 }
/-- java/lang/Character -/
def k9 : Class := { plain "java/lang/Character" (some 0) with
  accessFlags := 49
  interfaces := #[6, 7, 8]
  cf := some (fileOf pool9 1 #[.nestMembers #[48, 595, 307, 597]] #[{ accessFlags := 9, nameIndex := 80, descriptorIndex := 81, attributes := #[] }, { accessFlags := 9, nameIndex := 84, descriptorIndex := 81, attributes := #[] }, { accessFlags := 9, nameIndex := 555, descriptorIndex := 103, attributes := #[] }, { accessFlags := 8, nameIndex := 150, descriptorIndex := 103, attributes := #[] }] 49 42 #[385, 387, 389] #[{ accessFlags := 25, nameIndex := 391, descriptorIndex := 392, attributes := #[] }, { accessFlags := 25, nameIndex := 395, descriptorIndex := 392, attributes := #[] }, { accessFlags := 25, nameIndex := 397, descriptorIndex := 22, attributes := #[] }, { accessFlags := 25, nameIndex := 399, descriptorIndex := 22, attributes := #[] }, { accessFlags := 25, nameIndex := 383, descriptorIndex := 384, attributes := #[] }, { accessFlags := 25, nameIndex := 403, descriptorIndex := 404, attributes := #[] }, { accessFlags := 25, nameIndex := 405, descriptorIndex := 404, attributes := #[] }, { accessFlags := 25, nameIndex := 407, descriptorIndex := 404, attributes := #[] }, { accessFlags := 25, nameIndex := 408, descriptorIndex := 404, attributes := #[] }, { accessFlags := 25, nameIndex := 410, descriptorIndex := 404, attributes := #[] }, { accessFlags := 25, nameIndex := 412, descriptorIndex := 404, attributes := #[] }, { accessFlags := 25, nameIndex := 414, descriptorIndex := 404, attributes := #[] }, { accessFlags := 25, nameIndex := 416, descriptorIndex := 404, attributes := #[] }, { accessFlags := 25, nameIndex := 418, descriptorIndex := 404, attributes := #[] }, { accessFlags := 25, nameIndex := 420, descriptorIndex := 404, attributes := #[] }, { accessFlags := 25, nameIndex := 422, descriptorIndex := 404, attributes := #[] }, { accessFlags := 25, nameIndex := 424, descriptorIndex := 404, attributes := #[] }, { accessFlags := 25, nameIndex := 426, descriptorIndex := 404, attributes := #[] }, { accessFlags := 25, nameIndex := 428, descriptorIndex := 404, attributes := #[] }, { accessFlags := 25, nameIndex := 430, descriptorIndex := 404, attributes := #[] }, { accessFlags := 25, nameIndex := 432, descriptorIndex := 404, attributes := #[] }, { accessFlags := 25, nameIndex := 434, descriptorIndex := 404, attributes := #[] }, { accessFlags := 25, nameIndex := 436, descriptorIndex := 404, attributes := #[] }, { accessFlags := 25, nameIndex := 438, descriptorIndex := 404, attributes := #[] }, { accessFlags := 25, nameIndex := 440, descriptorIndex := 404, attributes := #[] }, { accessFlags := 25, nameIndex := 442, descriptorIndex := 404, attributes := #[] }, { accessFlags := 25, nameIndex := 444, descriptorIndex := 404, attributes := #[] }, { accessFlags := 25, nameIndex := 446, descriptorIndex := 404, attributes := #[] }, { accessFlags := 25, nameIndex := 448, descriptorIndex := 404, attributes := #[] }, { accessFlags := 25, nameIndex := 450, descriptorIndex := 404, attributes := #[] }, { accessFlags := 25, nameIndex := 452, descriptorIndex := 404, attributes := #[] }, { accessFlags := 25, nameIndex := 454, descriptorIndex := 404, attributes := #[] }, { accessFlags := 25, nameIndex := 456, descriptorIndex := 404, attributes := #[] }, { accessFlags := 25, nameIndex := 458, descriptorIndex := 404, attributes := #[] }, { accessFlags := 25, nameIndex := 460, descriptorIndex := 404, attributes := #[] }, { accessFlags := 24, nameIndex := 462, descriptorIndex := 392, attributes := #[] }, { accessFlags := 25, nameIndex := 464, descriptorIndex := 404, attributes := #[] }, { accessFlags := 25, nameIndex := 465, descriptorIndex := 404, attributes := #[] }, { accessFlags := 25, nameIndex := 466, descriptorIndex := 404, attributes := #[] }, { accessFlags := 25, nameIndex := 467, descriptorIndex := 404, attributes := #[] }, { accessFlags := 25, nameIndex := 468, descriptorIndex := 404, attributes := #[] }, { accessFlags := 25, nameIndex := 469, descriptorIndex := 404, attributes := #[] }, { accessFlags := 25, nameIndex := 470, descriptorIndex := 404, attributes := #[] }, { accessFlags := 25, nameIndex := 471, descriptorIndex := 404, attributes := #[] }, { accessFlags := 25, nameIndex := 472, descriptorIndex := 404, attributes := #[] }, { accessFlags := 25, nameIndex := 473, descriptorIndex := 404, attributes := #[] }, { accessFlags := 25, nameIndex := 474, descriptorIndex := 404, attributes := #[] }, { accessFlags := 25, nameIndex := 475, descriptorIndex := 404, attributes := #[] }, { accessFlags := 25, nameIndex := 476, descriptorIndex := 404, attributes := #[] }, { accessFlags := 25, nameIndex := 477, descriptorIndex := 404, attributes := #[] }, { accessFlags := 25, nameIndex := 478, descriptorIndex := 404, attributes := #[] }, { accessFlags := 25, nameIndex := 479, descriptorIndex := 404, attributes := #[] }, { accessFlags := 25, nameIndex := 480, descriptorIndex := 404, attributes := #[] }, { accessFlags := 25, nameIndex := 481, descriptorIndex := 404, attributes := #[] }, { accessFlags := 25, nameIndex := 482, descriptorIndex := 404, attributes := #[] }, { accessFlags := 25, nameIndex := 484, descriptorIndex := 404, attributes := #[] }, { accessFlags := 25, nameIndex := 485, descriptorIndex := 404, attributes := #[] }, { accessFlags := 25, nameIndex := 486, descriptorIndex := 404, attributes := #[] }, { accessFlags := 25, nameIndex := 487, descriptorIndex := 404, attributes := #[] }, { accessFlags := 25, nameIndex := 488, descriptorIndex := 404, attributes := #[] }, { accessFlags := 25, nameIndex := 489, descriptorIndex := 22, attributes := #[] }, { accessFlags := 25, nameIndex := 490, descriptorIndex := 22, attributes := #[] }, { accessFlags := 25, nameIndex := 492, descriptorIndex := 22, attributes := #[] }, { accessFlags := 25, nameIndex := 493, descriptorIndex := 22, attributes := #[] }, { accessFlags := 25, nameIndex := 495, descriptorIndex := 22, attributes := #[] }, { accessFlags := 25, nameIndex := 496, descriptorIndex := 22, attributes := #[] }, { accessFlags := 25, nameIndex := 497, descriptorIndex := 392, attributes := #[] }, { accessFlags := 25, nameIndex := 498, descriptorIndex := 392, attributes := #[] }, { accessFlags := 25, nameIndex := 499, descriptorIndex := 392, attributes := #[] }, { accessFlags := 18, nameIndex := 21, descriptorIndex := 22, attributes := #[] }, { accessFlags := 26, nameIndex := 501, descriptorIndex := 502, attributes := #[] }, { accessFlags := 25, nameIndex := 505, descriptorIndex := 392, attributes := #[] }, { accessFlags := 25, nameIndex := 506, descriptorIndex := 392, attributes := #[] }, { accessFlags := 4120, nameIndex := 284, descriptorIndex := 285, attributes := #[] }])
  fields := #[{ name := "MIN_RADIX", type := .int, accessFlags := 25, slot := 0, constantValue := 0 }, { name := "MAX_RADIX", type := .int, accessFlags := 25, slot := 1, constantValue := 0 }, { name := "MIN_VALUE", type := .char, accessFlags := 25, slot := 2, constantValue := 0 }, { name := "MAX_VALUE", type := .char, accessFlags := 25, slot := 3, constantValue := 0 }, { name := "TYPE", type := (.object "java/lang/Class"), accessFlags := 25, slot := 4, constantValue := 0 }, { name := "UNASSIGNED", type := .byte, accessFlags := 25, slot := 5, constantValue := 0 }, { name := "UPPERCASE_LETTER", type := .byte, accessFlags := 25, slot := 6, constantValue := 0 }, { name := "LOWERCASE_LETTER", type := .byte, accessFlags := 25, slot := 7, constantValue := 0 }, { name := "TITLECASE_LETTER", type := .byte, accessFlags := 25, slot := 8, constantValue := 0 }, { name := "MODIFIER_LETTER", type := .byte, accessFlags := 25, slot := 9, constantValue := 0 }, { name := "OTHER_LETTER", type := .byte, accessFlags := 25, slot := 10, constantValue := 0 }, { name := "NON_SPACING_MARK", type := .byte, accessFlags := 25, slot := 11, constantValue := 0 }, { name := "ENCLOSING_MARK", type := .byte, accessFlags := 25, slot := 12, constantValue := 0 }, { name := "COMBINING_SPACING_MARK", type := .byte, accessFlags := 25, slot := 13, constantValue := 0 }, { name := "DECIMAL_DIGIT_NUMBER", type := .byte, accessFlags := 25, slot := 14, constantValue := 0 }, { name := "LETTER_NUMBER", type := .byte, accessFlags := 25, slot := 15, constantValue := 0 }, { name := "OTHER_NUMBER", type := .byte, accessFlags := 25, slot := 16, constantValue := 0 }, { name := "SPACE_SEPARATOR", type := .byte, accessFlags := 25, slot := 17, constantValue := 0 }, { name := "LINE_SEPARATOR", type := .byte, accessFlags := 25, slot := 18, constantValue := 0 }, { name := "PARAGRAPH_SEPARATOR", type := .byte, accessFlags := 25, slot := 19, constantValue := 0 }, { name := "CONTROL", type := .byte, accessFlags := 25, slot := 20, constantValue := 0 }, { name := "FORMAT", type := .byte, accessFlags := 25, slot := 21, constantValue := 0 }, { name := "PRIVATE_USE", type := .byte, accessFlags := 25, slot := 22, constantValue := 0 }, { name := "SURROGATE", type := .byte, accessFlags := 25, slot := 23, constantValue := 0 }, { name := "DASH_PUNCTUATION", type := .byte, accessFlags := 25, slot := 24, constantValue := 0 }, { name := "START_PUNCTUATION", type := .byte, accessFlags := 25, slot := 25, constantValue := 0 }, { name := "END_PUNCTUATION", type := .byte, accessFlags := 25, slot := 26, constantValue := 0 }, { name := "CONNECTOR_PUNCTUATION", type := .byte, accessFlags := 25, slot := 27, constantValue := 0 }, { name := "OTHER_PUNCTUATION", type := .byte, accessFlags := 25, slot := 28, constantValue := 0 }, { name := "MATH_SYMBOL", type := .byte, accessFlags := 25, slot := 29, constantValue := 0 }, { name := "CURRENCY_SYMBOL", type := .byte, accessFlags := 25, slot := 30, constantValue := 0 }, { name := "MODIFIER_SYMBOL", type := .byte, accessFlags := 25, slot := 31, constantValue := 0 }, { name := "OTHER_SYMBOL", type := .byte, accessFlags := 25, slot := 32, constantValue := 0 }, { name := "INITIAL_QUOTE_PUNCTUATION", type := .byte, accessFlags := 25, slot := 33, constantValue := 0 }, { name := "FINAL_QUOTE_PUNCTUATION", type := .byte, accessFlags := 25, slot := 34, constantValue := 0 }, { name := "ERROR", type := .int, accessFlags := 24, slot := 35, constantValue := 0 }, { name := "DIRECTIONALITY_UNDEFINED", type := .byte, accessFlags := 25, slot := 36, constantValue := 0 }, { name := "DIRECTIONALITY_LEFT_TO_RIGHT", type := .byte, accessFlags := 25, slot := 37, constantValue := 0 }, { name := "DIRECTIONALITY_RIGHT_TO_LEFT", type := .byte, accessFlags := 25, slot := 38, constantValue := 0 }, { name := "DIRECTIONALITY_RIGHT_TO_LEFT_ARABIC", type := .byte, accessFlags := 25, slot := 39, constantValue := 0 }, { name := "DIRECTIONALITY_EUROPEAN_NUMBER", type := .byte, accessFlags := 25, slot := 40, constantValue := 0 }, { name := "DIRECTIONALITY_EUROPEAN_NUMBER_SEPARATOR", type := .byte, accessFlags := 25, slot := 41, constantValue := 0 }, { name := "DIRECTIONALITY_EUROPEAN_NUMBER_TERMINATOR", type := .byte, accessFlags := 25, slot := 42, constantValue := 0 }, { name := "DIRECTIONALITY_ARABIC_NUMBER", type := .byte, accessFlags := 25, slot := 43, constantValue := 0 }, { name := "DIRECTIONALITY_COMMON_NUMBER_SEPARATOR", type := .byte, accessFlags := 25, slot := 44, constantValue := 0 }, { name := "DIRECTIONALITY_NONSPACING_MARK", type := .byte, accessFlags := 25, slot := 45, constantValue := 0 }, { name := "DIRECTIONALITY_BOUNDARY_NEUTRAL", type := .byte, accessFlags := 25, slot := 46, constantValue := 0 }, { name := "DIRECTIONALITY_PARAGRAPH_SEPARATOR", type := .byte, accessFlags := 25, slot := 47, constantValue := 0 }, { name := "DIRECTIONALITY_SEGMENT_SEPARATOR", type := .byte, accessFlags := 25, slot := 48, constantValue := 0 }, { name := "DIRECTIONALITY_WHITESPACE", type := .byte, accessFlags := 25, slot := 49, constantValue := 0 }, { name := "DIRECTIONALITY_OTHER_NEUTRALS", type := .byte, accessFlags := 25, slot := 50, constantValue := 0 }, { name := "DIRECTIONALITY_LEFT_TO_RIGHT_EMBEDDING", type := .byte, accessFlags := 25, slot := 51, constantValue := 0 }, { name := "DIRECTIONALITY_LEFT_TO_RIGHT_OVERRIDE", type := .byte, accessFlags := 25, slot := 52, constantValue := 0 }, { name := "DIRECTIONALITY_RIGHT_TO_LEFT_EMBEDDING", type := .byte, accessFlags := 25, slot := 53, constantValue := 0 }, { name := "DIRECTIONALITY_RIGHT_TO_LEFT_OVERRIDE", type := .byte, accessFlags := 25, slot := 54, constantValue := 0 }, { name := "DIRECTIONALITY_POP_DIRECTIONAL_FORMAT", type := .byte, accessFlags := 25, slot := 55, constantValue := 0 }, { name := "DIRECTIONALITY_LEFT_TO_RIGHT_ISOLATE", type := .byte, accessFlags := 25, slot := 56, constantValue := 0 }, { name := "DIRECTIONALITY_RIGHT_TO_LEFT_ISOLATE", type := .byte, accessFlags := 25, slot := 57, constantValue := 0 }, { name := "DIRECTIONALITY_FIRST_STRONG_ISOLATE", type := .byte, accessFlags := 25, slot := 58, constantValue := 0 }, { name := "DIRECTIONALITY_POP_DIRECTIONAL_ISOLATE", type := .byte, accessFlags := 25, slot := 59, constantValue := 0 }, { name := "MIN_HIGH_SURROGATE", type := .char, accessFlags := 25, slot := 60, constantValue := 0 }, { name := "MAX_HIGH_SURROGATE", type := .char, accessFlags := 25, slot := 61, constantValue := 0 }, { name := "MIN_LOW_SURROGATE", type := .char, accessFlags := 25, slot := 62, constantValue := 0 }, { name := "MAX_LOW_SURROGATE", type := .char, accessFlags := 25, slot := 63, constantValue := 0 }, { name := "MIN_SURROGATE", type := .char, accessFlags := 25, slot := 64, constantValue := 0 }, { name := "MAX_SURROGATE", type := .char, accessFlags := 25, slot := 65, constantValue := 0 }, { name := "MIN_SUPPLEMENTARY_CODE_POINT", type := .int, accessFlags := 25, slot := 66, constantValue := 0 }, { name := "MIN_CODE_POINT", type := .int, accessFlags := 25, slot := 67, constantValue := 0 }, { name := "MAX_CODE_POINT", type := .int, accessFlags := 25, slot := 68, constantValue := 0 }, { name := "value", type := .char, accessFlags := 18, slot := 0, constantValue := 0 }, { name := "serialVersionUID", type := .long, accessFlags := 26, slot := 69, constantValue := 0 }, { name := "SIZE", type := .int, accessFlags := 25, slot := 70, constantValue := 0 }, { name := "BYTES", type := .int, accessFlags := 25, slot := 71, constantValue := 0 }, { name := "$assertionsDisabled", type := .boolean, accessFlags := 4120, slot := 72, constantValue := 0 }]
  methods := #[k9m0, k9m1, k9m2, k9m3]
  instanceTypes := #[.char]
  staticTypes := #[.int, .int, .char, .char, (.object "java/lang/Class"), .byte, .byte, .byte, .byte, .byte, .byte, .byte, .byte, .byte, .byte, .byte, .byte, .byte, .byte, .byte, .byte, .byte, .byte, .byte, .byte, .byte, .byte, .byte, .byte, .byte, .byte, .byte, .byte, .byte, .byte, .int, .byte, .byte, .byte, .byte, .byte, .byte, .byte, .byte, .byte, .byte, .byte, .byte, .byte, .byte, .byte, .byte, .byte, .byte, .byte, .byte, .byte, .byte, .byte, .byte, .char, .char, .char, .char, .char, .char, .int, .int, .int, .long, .int, .int, .boolean]
  resolved := Array.replicate 604 none
  statics := none }

def pool10 : Array CpInfo := pool [(2, .class_ 4), (1, u "java/lang/Object"), (0, u "<init>"), (0, u "()V"), (35, .class_ 44), (1, u "java/util/Objects"), (61, .class_ 108), (1, u "jdk/internal/util/Preconditions"), (5, u "(IIILjava/util/function/BiFunction;)I"), (0, .methodref 106 116), (0, .nameAndType 117 114), (0, u "checkFromIndexSize"), (57, u "(III)I")] 8

def k10m0 : Method := { name := "<init>", desc := "()V", sig := { parameters := [], returnType := none }, accessFlags := 2, code := none }
def k10c1 : Code := { maxStack := 4, maxLocals := 3, code := jdk_31_method_19_code, exceptionTable := #[], attributes := #[] }
def k10m1 : Method := { name := "checkFromIndexSize", desc := "(III)I", sig := { parameters := [.int, .int, .int], returnType := some .int }, accessFlags := 9, code := some k10c1 }
/-- java/util/Objects -/
def k10 : Class := { plain "java/util/Objects" (some 0) with
  accessFlags := 49
  interfaces := #[]
  cf := some (fileOf pool10 42 #[] #[{ accessFlags := 2, nameIndex := 5, descriptorIndex := 6, attributes := #[] }, { accessFlags := 9, nameIndex := 117, descriptorIndex := 175, attributes := #[] }] 49 2 #[] #[])
  fields := #[]
  methods := #[k10m0, k10m1]
  instanceTypes := #[]
  staticTypes := #[]
  resolved := Array.replicate 184 none
  statics := none }

def pool11 : Array CpInfo := pool [(2, .class_ 4), (1, u "java/lang/Object"), (0, u "<init>"), (0, u "()V"), (17, .class_ 26), (1, u "jdk/internal/util/Preconditions"), (22, u "checkFromIndexSize"), (5, .class_ 56), (0, u "jdk/internal/util/Preconditions$4"), (57, .class_ 115), (0, u "jdk/internal/util/Preconditions$1"), (7, u "SIOOBE_FORMATTER"), (0, u "Ljava/util/function/BiFunction;"), (0, .class_ 126), (0, u "jdk/internal/util/Preconditions$2"), (3, u "AIOOBE_FORMATTER"), (0, .class_ 132), (0, u "jdk/internal/util/Preconditions$3"), (3, u "IOOBE_FORMATTER"), (46, u "(IIILjava/util/function/BiFunction;)I")] 10

def k11m0 : Method := { name := "<init>", desc := "()V", sig := { parameters := [], returnType := none }, accessFlags := 1, code := none }
def k11c1 : Code := { maxStack := 4, maxLocals := 4, code := jdk_41_method_13_code, exceptionTable := #[], attributes := #[] }
def k11m1 : Method := { name := "checkFromIndexSize", desc := "(IIILjava/util/function/BiFunction;)I", sig := { parameters := [.int, .int, .int, (.object "java/util/function/BiFunction")], returnType := some .int }, accessFlags := 9, code := some k11c1 }
/-- jdk/internal/util/Preconditions -/
def k11 : Class := { plain "jdk/internal/util/Preconditions" (some 0) with
  accessFlags := 33
  interfaces := #[]
  cf := some (fileOf pool11 24 #[.nestMembers #[55, 131, 125, 114]] #[{ accessFlags := 1, nameIndex := 5, descriptorIndex := 6, attributes := #[] }, { accessFlags := 9, nameIndex := 49, descriptorIndex := 183, attributes := #[] }] 33 2 #[] #[{ accessFlags := 25, nameIndex := 123, descriptorIndex := 124, attributes := #[] }, { accessFlags := 25, nameIndex := 130, descriptorIndex := 124, attributes := #[] }, { accessFlags := 25, nameIndex := 136, descriptorIndex := 124, attributes := #[] }])
  fields := #[{ name := "SIOOBE_FORMATTER", type := (.object "java/util/function/BiFunction"), accessFlags := 25, slot := 0, constantValue := 0 }, { name := "AIOOBE_FORMATTER", type := (.object "java/util/function/BiFunction"), accessFlags := 25, slot := 1, constantValue := 0 }, { name := "IOOBE_FORMATTER", type := (.object "java/util/function/BiFunction"), accessFlags := 25, slot := 2, constantValue := 0 }]
  methods := #[k11m0, k11m1]
  instanceTypes := #[]
  staticTypes := #[(.object "java/util/function/BiFunction"), (.object "java/util/function/BiFunction"), (.object "java/util/function/BiFunction")]
  resolved := Array.replicate 194 none
  statics := none }

def pool12 : Array CpInfo := pool [(1, u "java/lang/Cloneable"), (0, .class_ 1), (0, u "java/lang/Object"), (0, .class_ 3)] 3

/-- java/lang/Cloneable -/
def k12 : Class := { plain "java/lang/Cloneable" (some 0) with
  accessFlags := 1537
  interfaces := #[]
  cf := some (fileOf pool12 2 #[] #[] 1537 4 #[] #[])
  fields := #[]
  methods := #[]
  instanceTypes := #[]
  staticTypes := #[]
  resolved := Array.replicate 8 none
  statics := none }

/-- the primitive byte -/
def k13 : Class := { plain "byte" none with kind := .primitive 'B', accessFlags := 0x411 }
/-- [B -/
def k14 : Class := { plain "[B" (some 0) with kind := .array 13 .byte, interfaces := #[12, 6], accessFlags := 1041 }

/-- the primitive char -/
def k15 : Class := { plain "char" none with kind := .primitive 'C', accessFlags := 0x411 }
/-- [C -/
def k16 : Class := { plain "[C" (some 0) with kind := .array 15 .char, interfaces := #[12, 6], accessFlags := 1041 }

/-- the primitive int -/
def k17 : Class := { plain "int" none with kind := .primitive 'I', accessFlags := 0x411 }
/-- [I -/
def k18 : Class := { plain "[I" (some 0) with kind := .array 17 .int, interfaces := #[12, 6], accessFlags := 1041 }

def heap : Heap := #[]
def classes : Array Class := #[k0, k1, k2, k3, k4, k5, k6, k7, k8, k9, k10, k11, k12, k13, k14, k15, k16, k17, k18]
def interned : List (Array UInt16 × Addr) := []
def slotsUsed : Nat := 0
def theMethod : MethodId := ⟨1, 5⟩
def args0 : Array Value := #[.int 5, .int 5, .int 5, .int 5, .int 5, .int 5]
def aboutOver (below : List Frame) : State where
  vm := { classes := classes, interned := interned.toArray }
  heap := heap
  slotsUsed := slotsUsed
  threads := #[{ frames := .invoking theMethod args0 :: below }]
def below0 : List Frame := [.native { method := ⟨0, 0⟩, args := #[] }]
def about1 : State := aboutOver below0
def p0 : Program := .bare "" "" ""
def e0 : Env := launch0.env 0 0 0
theorem w_frames : about1.frames = Frame.invoking theMethod args0 :: below0 := rfl
set_option maxRecDepth 65536 in
theorem w_args : argsFit about1.vm theMethod args0 = true := by decide +kernel
set_option maxRecDepth 65536 in
theorem w_heap : heapFits about1 = true := by decide +kernel
set_option maxRecDepth 65536 in
theorem w_runnable : about1.curStatus? = some .runnable := by decide +kernel
set_option maxRecDepth 65536 in
theorem w_alone : about1.alone = true := by decide +kernel
set_option maxRecDepth 65536 in
theorem w_named : about1.methodNamed? x = some theMethod := by decide +kernel
set_option maxRecDepth 65536 in
theorem w_hears : about1.hears theMethod below0 = true := by decide +kernel
set_option maxRecDepth 65536 in
theorem w_ripe : about1.ripe theMethod args0 below0 = true := by decide +kernel
theorem w_running : about1.status = .running := rfl
set_option maxRecDepth 65536 in
theorem w_room : about1.hasRoom e0.platform room_1 = true :=
  launch0.hasRoom_least _ room_1 (by decide +kernel) (by decide +kernel) (by decide +kernel) (by decide +kernel) (by decide +kernel) (by decide +kernel)
theorem allAtoms_all (ts : List Jvm.Cond) (a : Array Jvm.Value) (st : Jvm.State) : (allAtoms ts).before a st = ts.all (fun c => c.before a st) := by
  induction ts with
  | nil => rfl
  | cons c t ih =>
    show (Jvm.Cond.and c (allAtoms t)).before a st = _
    rw [Jvm.Cond.before_and, ih, List.all_cons]
def words1 : List Jvm.Cond := Jvm.Cond.code x code maxLocals ret :: tables_1
/-- a 'code' word, met by the world's own term for the bytes: nothing is compared byte by byte -/
theorem code_word {y : MethodName} {bytes : ByteArray} {mx : Nat} {rt : Option FieldType} {a : Array Value} {s : State} {m : MethodId} {meth : Method} {c : Code} (h1 : s.methodNamed? y = some m) (h2 : s.vm.method? m = some meth) (h3 : meth.code = some c) (h4 : c.code = bytes)
    (h5 : (c.maxLocals == mx && c.exceptionTable.isEmpty && decide (c.maxStack ≤ mostOperands) && decide (meth.sig.returnType = rt) && !meth.locks && decide (parseMethodDescriptor y.desc = some meth.sig)) = true) : (Jvm.Cond.code y bytes mx rt).before a s = true := by
  simp only [Bool.and_eq_true, beq_iff_eq, Bool.not_eq_true', decide_eq_true_eq] at h5
  obtain ⟨⟨⟨⟨⟨g1, g2⟩, g3⟩, g4⟩, g5⟩, g6⟩ := h5
  simp [Cond.before, Cond.holds, Cond.value, h1, h2, h3, h4, g1, g2, g3, g4, g5, g6]
def isCode : Jvm.Cond → Bool
  | .code _ _ _ _ => true
  | _ => false
theorem all_split {L : List Jvm.Cond} {P : Jvm.Cond → Bool} (h1 : L.all (fun c => isCode c || P c) = true) (h2 : ∀ c ∈ L.filter isCode, P c = true) : L.all P = true := by
  refine List.all_eq_true.mpr fun c hc => ?_
  have h := List.all_eq_true.mp h1 c hc
  rcases Bool.eq_false_or_eq_true (isCode c) with hi | hi
  · exact h2 c (List.mem_filter.mpr ⟨hc, hi⟩)
  · simpa [hi] using h
set_option maxRecDepth 65536 in
theorem w_c0 : (Jvm.Cond.code x code maxLocals ret).before args0 about1 = true := code_word (m := ⟨1, 5⟩) (meth := k1m5) (c := k1c5) (by decide +kernel) rfl rfl rfl (by decide +kernel)
set_option maxRecDepth 65536 in
theorem w_c1 : (Jvm.Cond.code ({ cls := "org/arborlog/pattern/LineTextCodePointCountPinLaw", name := "draw", desc := "(I)C" } : Jvm.MethodName) method_2_code (4 : Nat) (Option.some Jvm.ClassFile.FieldType.char)).before args0 about1 = true := code_word (m := ⟨1, 1⟩) (meth := k1m1) (c := k1c1) (by decide +kernel) rfl rfl rfl (by decide +kernel)
set_option maxRecDepth 65536 in
theorem w_c2 : (Jvm.Cond.code ({ cls := "org/arborlog/pattern/LineText", name := "<init>", desc := "(I)V" } : Jvm.MethodName) prog_20_method_1_code (2 : Nat) (Option.none : Option Jvm.ClassFile.FieldType)).before args0 about1 = true := code_word (m := ⟨2, 0⟩) (meth := k2m0) (c := k2c0) (by decide +kernel) rfl rfl rfl (by decide +kernel)
set_option maxRecDepth 65536 in
theorem w_c3 : (Jvm.Cond.code ({ cls := "java/lang/Object", name := "<init>", desc := "()V" } : Jvm.MethodName) object_method_1_code (1 : Nat) (Option.none : Option Jvm.ClassFile.FieldType)).before args0 about1 = true := code_word (m := ⟨0, 0⟩) (meth := k0m0) (c := k0c0) (by decide +kernel) rfl rfl rfl (by decide +kernel)
set_option maxRecDepth 65536 in
theorem w_c4 : (Jvm.Cond.code ({ cls := "org/arborlog/pattern/LineText", name := "append", desc := "(C)Lorg/arborlog/pattern/LineText;" } : Jvm.MethodName) prog_20_method_7_code (2 : Nat) (Option.some (Jvm.ClassFile.FieldType.object "org/arborlog/pattern/LineText"))).before args0 about1 = true := code_word (m := ⟨2, 1⟩) (meth := k2m1) (c := k2c1) (by decide +kernel) rfl rfl rfl (by decide +kernel)
set_option maxRecDepth 65536 in
theorem w_c5 : (Jvm.Cond.code ({ cls := "org/arborlog/pattern/LineText", name := "ensureCapacity", desc := "(I)V" } : Jvm.MethodName) prog_20_method_14_code (2 : Nat) (Option.none : Option Jvm.ClassFile.FieldType)).before args0 about1 = true := code_word (m := ⟨2, 3⟩) (meth := k2m3) (c := k2c3) (by decide +kernel) rfl rfl rfl (by decide +kernel)
set_option maxRecDepth 65536 in
theorem w_c6 : (Jvm.Cond.code ({ cls := "java/lang/Math", name := "max", desc := "(II)I" } : Jvm.MethodName) jdk_29_method_65_code (2 : Nat) (Option.some Jvm.ClassFile.FieldType.int)).before args0 about1 = true := code_word (m := ⟨3, 1⟩) (meth := k3m1) (c := k3c1) (by decide +kernel) rfl rfl rfl (by decide +kernel)
set_option maxRecDepth 65536 in
theorem w_c7 : (Jvm.Cond.code ({ cls := "java/util/Arrays", name := "copyOf", desc := "([CI)[C" } : Jvm.MethodName) jdk_65_method_125_code (3 : Nat) (Option.some (Jvm.ClassFile.FieldType.array Jvm.ClassFile.FieldType.char))).before args0 about1 = true := code_word (m := ⟨4, 1⟩) (meth := k4m1) (c := k4c1) (by decide +kernel) rfl rfl rfl (by decide +kernel)
set_option maxRecDepth 65536 in
theorem w_c8 : (Jvm.Cond.code ({ cls := "java/lang/Math", name := "min", desc := "(II)I" } : Jvm.MethodName) jdk_29_method_69_code (2 : Nat) (Option.some Jvm.ClassFile.FieldType.int)).before args0 about1 = true := code_word (m := ⟨3, 2⟩) (meth := k3m2) (c := k3c2) (by decide +kernel) rfl rfl rfl (by decide +kernel)
set_option maxRecDepth 65536 in
theorem w_c9 : (Jvm.Cond.code ({ cls := "org/arborlog/pattern/LineTextCodePointCountPinLaw", name := "contrib", desc := "([CIII)I" } : Jvm.MethodName) method_5_code (4 : Nat) (Option.some Jvm.ClassFile.FieldType.int)).before args0 about1 = true := code_word (m := ⟨1, 4⟩) (meth := k1m4) (c := k1c4) (by decide +kernel) rfl rfl rfl (by decide +kernel)
set_option maxRecDepth 65536 in
theorem w_c10 : (Jvm.Cond.code ({ cls := "org/arborlog/pattern/LineTextCodePointCountPinLaw", name := "high", desc := "(C)Z" } : Jvm.MethodName) method_3_code (1 : Nat) (Option.some Jvm.ClassFile.FieldType.boolean)).before args0 about1 = true := code_word (m := ⟨1, 2⟩) (meth := k1m2) (c := k1c2) (by decide +kernel) rfl rfl rfl (by decide +kernel)
set_option maxRecDepth 65536 in
theorem w_c11 : (Jvm.Cond.code ({ cls := "org/arborlog/pattern/LineText", name := "codePointCount", desc := "(I)I" } : Jvm.MethodName) prog_20_method_12_code (2 : Nat) (Option.some Jvm.ClassFile.FieldType.int)).before args0 about1 = true := code_word (m := ⟨2, 2⟩) (meth := k2m2) (c := k2c2) (by decide +kernel) rfl rfl rfl (by decide +kernel)
set_option maxRecDepth 65536 in
theorem w_c12 : (Jvm.Cond.code ({ cls := "java/lang/Character", name := "codePointCount", desc := "([CII)I" } : Jvm.MethodName) jdk_89_method_34_code (3 : Nat) (Option.some Jvm.ClassFile.FieldType.int)).before args0 about1 = true := code_word (m := ⟨9, 2⟩) (meth := k9m2) (c := k9c2) (by decide +kernel) rfl rfl rfl (by decide +kernel)
set_option maxRecDepth 65536 in
theorem w_c13 : (Jvm.Cond.code ({ cls := "java/util/Objects", name := "checkFromIndexSize", desc := "(III)I" } : Jvm.MethodName) jdk_31_method_19_code (3 : Nat) (Option.some Jvm.ClassFile.FieldType.int)).before args0 about1 = true := code_word (m := ⟨10, 1⟩) (meth := k10m1) (c := k10c1) (by decide +kernel) rfl rfl rfl (by decide +kernel)
set_option maxRecDepth 65536 in
theorem w_c14 : (Jvm.Cond.code ({ cls := "jdk/internal/util/Preconditions", name := "checkFromIndexSize", desc := "(IIILjava/util/function/BiFunction;)I" } : Jvm.MethodName) jdk_41_method_13_code (4 : Nat) (Option.some Jvm.ClassFile.FieldType.int)).before args0 about1 = true := code_word (m := ⟨11, 1⟩) (meth := k11m1) (c := k11c1) (by decide +kernel) rfl rfl rfl (by decide +kernel)
set_option maxRecDepth 65536 in
theorem w_c15 : (Jvm.Cond.code ({ cls := "java/lang/Character", name := "codePointCountImpl", desc := "([CII)I" } : Jvm.MethodName) jdk_89_method_35_code (6 : Nat) (Option.some Jvm.ClassFile.FieldType.int)).before args0 about1 = true := code_word (m := ⟨9, 3⟩) (meth := k9m3) (c := k9c3) (by decide +kernel) rfl rfl rfl (by decide +kernel)
set_option maxRecDepth 65536 in
theorem w_c16 : (Jvm.Cond.code ({ cls := "java/lang/Character", name := "isHighSurrogate", desc := "(C)Z" } : Jvm.MethodName) jdk_89_method_14_code (1 : Nat) (Option.some Jvm.ClassFile.FieldType.boolean)).before args0 about1 = true := code_word (m := ⟨9, 0⟩) (meth := k9m0) (c := k9c0) (by decide +kernel) rfl rfl rfl (by decide +kernel)
set_option maxRecDepth 65536 in
theorem w_c17 : (Jvm.Cond.code ({ cls := "org/arborlog/pattern/LineTextCodePointCountPinLaw", name := "low", desc := "(C)Z" } : Jvm.MethodName) method_4_code (1 : Nat) (Option.some Jvm.ClassFile.FieldType.boolean)).before args0 about1 = true := code_word (m := ⟨1, 3⟩) (meth := k1m3) (c := k1c3) (by decide +kernel) rfl rfl rfl (by decide +kernel)
set_option maxRecDepth 65536 in
theorem w_c18 : (Jvm.Cond.code ({ cls := "java/lang/Character", name := "isLowSurrogate", desc := "(C)Z" } : Jvm.MethodName) jdk_89_method_15_code (1 : Nat) (Option.some Jvm.ClassFile.FieldType.boolean)).before args0 about1 = true := code_word (m := ⟨9, 1⟩) (meth := k9m1) (c := k9c1) (by decide +kernel) rfl rfl rfl (by decide +kernel)
def codes1 : List Jvm.Cond := [Jvm.Cond.code x code maxLocals ret, Jvm.Cond.code ({ cls := "org/arborlog/pattern/LineTextCodePointCountPinLaw", name := "draw", desc := "(I)C" } : Jvm.MethodName) method_2_code (4 : Nat) (Option.some Jvm.ClassFile.FieldType.char), Jvm.Cond.code ({ cls := "org/arborlog/pattern/LineText", name := "<init>", desc := "(I)V" } : Jvm.MethodName) prog_20_method_1_code (2 : Nat) (Option.none : Option Jvm.ClassFile.FieldType), Jvm.Cond.code ({ cls := "java/lang/Object", name := "<init>", desc := "()V" } : Jvm.MethodName) object_method_1_code (1 : Nat) (Option.none : Option Jvm.ClassFile.FieldType), Jvm.Cond.code ({ cls := "org/arborlog/pattern/LineText", name := "append", desc := "(C)Lorg/arborlog/pattern/LineText;" } : Jvm.MethodName) prog_20_method_7_code (2 : Nat) (Option.some (Jvm.ClassFile.FieldType.object "org/arborlog/pattern/LineText")), Jvm.Cond.code ({ cls := "org/arborlog/pattern/LineText", name := "ensureCapacity", desc := "(I)V" } : Jvm.MethodName) prog_20_method_14_code (2 : Nat) (Option.none : Option Jvm.ClassFile.FieldType), Jvm.Cond.code ({ cls := "java/lang/Math", name := "max", desc := "(II)I" } : Jvm.MethodName) jdk_29_method_65_code (2 : Nat) (Option.some Jvm.ClassFile.FieldType.int), Jvm.Cond.code ({ cls := "java/util/Arrays", name := "copyOf", desc := "([CI)[C" } : Jvm.MethodName) jdk_65_method_125_code (3 : Nat) (Option.some (Jvm.ClassFile.FieldType.array Jvm.ClassFile.FieldType.char)), Jvm.Cond.code ({ cls := "java/lang/Math", name := "min", desc := "(II)I" } : Jvm.MethodName) jdk_29_method_69_code (2 : Nat) (Option.some Jvm.ClassFile.FieldType.int), Jvm.Cond.code ({ cls := "org/arborlog/pattern/LineTextCodePointCountPinLaw", name := "contrib", desc := "([CIII)I" } : Jvm.MethodName) method_5_code (4 : Nat) (Option.some Jvm.ClassFile.FieldType.int), Jvm.Cond.code ({ cls := "org/arborlog/pattern/LineTextCodePointCountPinLaw", name := "high", desc := "(C)Z" } : Jvm.MethodName) method_3_code (1 : Nat) (Option.some Jvm.ClassFile.FieldType.boolean), Jvm.Cond.code ({ cls := "org/arborlog/pattern/LineText", name := "codePointCount", desc := "(I)I" } : Jvm.MethodName) prog_20_method_12_code (2 : Nat) (Option.some Jvm.ClassFile.FieldType.int), Jvm.Cond.code ({ cls := "java/lang/Character", name := "codePointCount", desc := "([CII)I" } : Jvm.MethodName) jdk_89_method_34_code (3 : Nat) (Option.some Jvm.ClassFile.FieldType.int), Jvm.Cond.code ({ cls := "java/util/Objects", name := "checkFromIndexSize", desc := "(III)I" } : Jvm.MethodName) jdk_31_method_19_code (3 : Nat) (Option.some Jvm.ClassFile.FieldType.int), Jvm.Cond.code ({ cls := "jdk/internal/util/Preconditions", name := "checkFromIndexSize", desc := "(IIILjava/util/function/BiFunction;)I" } : Jvm.MethodName) jdk_41_method_13_code (4 : Nat) (Option.some Jvm.ClassFile.FieldType.int), Jvm.Cond.code ({ cls := "java/lang/Character", name := "codePointCountImpl", desc := "([CII)I" } : Jvm.MethodName) jdk_89_method_35_code (6 : Nat) (Option.some Jvm.ClassFile.FieldType.int), Jvm.Cond.code ({ cls := "java/lang/Character", name := "isHighSurrogate", desc := "(C)Z" } : Jvm.MethodName) jdk_89_method_14_code (1 : Nat) (Option.some Jvm.ClassFile.FieldType.boolean), Jvm.Cond.code ({ cls := "org/arborlog/pattern/LineTextCodePointCountPinLaw", name := "low", desc := "(C)Z" } : Jvm.MethodName) method_4_code (1 : Nat) (Option.some Jvm.ClassFile.FieldType.boolean), Jvm.Cond.code ({ cls := "java/lang/Character", name := "isLowSurrogate", desc := "(C)Z" } : Jvm.MethodName) jdk_89_method_15_code (1 : Nat) (Option.some Jvm.ClassFile.FieldType.boolean)]
set_option maxRecDepth 65536 in
theorem codes_eq : words1.filter isCode = codes1 := rfl
theorem w_codes : ∀ c ∈ words1.filter isCode, c.before args0 about1 = true := by
  rw [codes_eq]
  intro c hc
  simp only [codes1, List.mem_cons, List.not_mem_nil, or_false] at hc
  rcases hc with rfl | rfl | rfl | rfl | rfl | rfl | rfl | rfl | rfl | rfl | rfl | rfl | rfl | rfl | rfl | rfl | rfl | rfl | rfl
  · exact w_c0
  · exact w_c1
  · exact w_c2
  · exact w_c3
  · exact w_c4
  · exact w_c5
  · exact w_c6
  · exact w_c7
  · exact w_c8
  · exact w_c9
  · exact w_c10
  · exact w_c11
  · exact w_c12
  · exact w_c13
  · exact w_c14
  · exact w_c15
  · exact w_c16
  · exact w_c17
  · exact w_c18
set_option maxRecDepth 65536 in
theorem w_t1 : (words1.take 24).all (fun c => isCode c || c.before args0 about1) = true := by decide +kernel
set_option maxRecDepth 65536 in
theorem w_t2 : ((words1.drop 24).take 24).all (fun c => isCode c || c.before args0 about1) = true := by decide +kernel
set_option maxRecDepth 65536 in
theorem w_t3 : (((words1.drop 24).drop 24).take 24).all (fun c => isCode c || c.before args0 about1) = true := by decide +kernel
set_option maxRecDepth 65536 in
theorem w_t4 : (((words1.drop 24).drop 24).drop 24).all (fun c => isCode c || c.before args0 about1) = true := by decide +kernel
theorem w_tables : (allAtoms (Jvm.Cond.code x code maxLocals ret :: tables_1)).before args0 about1 = true := by
  rw [allAtoms_all]
  show words1.all (fun c => c.before args0 about1) = true
  refine all_split ?_ w_codes
  rw [← List.take_append_drop 24 words1, List.all_append, w_t1, ← List.take_append_drop 24 (words1.drop 24), List.all_append, w_t2, ← List.take_append_drop 24 ((words1.drop 24).drop 24), List.all_append, w_t3, w_t4]
  rfl
set_option maxRecDepth 65536 in
theorem w_case : (Jvm.Cond.and given_1 narrow_1).before args0 about1 = true := by decide +kernel
theorem w_applies : (headSpec (Jvm.Cond.code x code maxLocals ret :: tables_1) room_1).applies x e0.platform about1 = true :=
  (Spec.applies_iff w_frames).mpr ⟨w_running, w_runnable, w_alone, w_named, w_hears, w_ripe, w_room, w_tables⟩
theorem atStart : AtStart classFile x code maxLocals ret World_1 tables_1 room_1 Calls_1 rest_1 Pre_1 launch0 p0 e0 about1 theMethod args0 below0 :=
  ⟨lists_1, trivial, launch0.admits_env _ _ _, launch0.least_env, fairChoices_fair.cas, fairChoices_fair.clock, w_frames, w_args, w_heap, w_applies, trivial, trivial, w_case⟩
end start1
theorem witness_1 : WitnessClaimed_1 := ⟨start1.p0, start1.e0, start1.about1, start1.theMethod, start1.args0, start1.below0, start1.atStart⟩
end Jvm.Pilot.@@N@@
