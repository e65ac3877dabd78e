import JvmDerived
import JvmDerived.Pilot.@@N@@Statement
import JvmDerived.Pilot.@@N@@Code
set_option linter.unusedVariables false
set_option linter.unusedSimpArgs false
namespace Jvm.RoadKit
open Sem ClassFile Op Lib Jvm.Stand Jvm.Free Jvm.LawKit
section New
variable {p : Program} {l : Launch} {e : Env} {R : Room} {s : State} {m : MethodId} {args : Array Value} {below : List Frame} {meth : Method} {c : Code} {T : State} {locs : List Loc} {cells slots : Nat}
theorem own_retI (X : Stand p l e R s m args below meth c T locs cells slots) (hx : p.tables.exec = Jvm.exec) {pc : Nat} {Ls : Array Slot} {z : Int32} {rest : List Value} (hret : meth.sig.returnType = some .int) (hd : decode c.code pc = .ok (.ireturn, 1)) {fs : List Frame}
    (hl : ∀ (f : JFrame) (acts : List Action), f.method = m → f.locked = none → f.entered = [] → (doReturn e (T.setTop f) acts (some (.int z))).1 = T.setFrames fs) : Steps p.tables e below (T.setTop (mkF m pc Ls (.int z :: rest))) (T.setFrames fs) :=
  retOut X hx hret rfl (Or.inl ⟨rfl, Or.inl rfl, z, rfl⟩) hd hl
theorem own_retL (X : Stand p l e R s m args below meth c T locs cells slots) (hx : p.tables.exec = Jvm.exec) {pc : Nat} {Ls : Array Slot} {z : Int64} {rest : List Value} (hret : meth.sig.returnType = some .long) (hd : decode c.code pc = .ok (.lreturn, 1)) {fs : List Frame}
    (hl : ∀ (f : JFrame) (acts : List Action), f.method = m → f.locked = none → f.entered = [] → (doReturn e (T.setTop f) acts (some (.long z))).1 = T.setFrames fs) : Steps p.tables e below (T.setTop (mkF m pc Ls (.long z :: rest))) (T.setFrames fs) :=
  retOut X hx hret rfl (Or.inr (Or.inl ⟨rfl, rfl, z, rfl⟩)) hd hl
theorem own_retA (X : Stand p l e R s m args below meth c T locs cells slots) (hx : p.tables.exec = Jvm.exec) {pc : Nat} {Ls : Array Slot} {w : Value} {t : FieldType} {rest : List Value} (hret : meth.sig.returnType = some t) (ht : t.isReference = true) (hw : w.isRef = true) (hn : narrow t w = w) (hd : decode c.code pc = .ok (.areturn, 1)) {fs : List Frame}
    (hl : ∀ (f : JFrame) (acts : List Action), f.method = m → f.locked = none → f.entered = [] → (doReturn e (T.setTop f) acts (some w)).1 = T.setFrames fs) : Steps p.tables e below (T.setTop (mkF m pc Ls (w :: rest))) (T.setFrames fs) :=
  retOut X hx hret hn (Or.inr (Or.inr (Or.inr (Or.inr ⟨rfl, ht, hw⟩)))) hd hl
theorem own_lremM {g : JFrame} {target : State} (X : Stand p l e R s m args below meth c T locs cells slots) (hx : p.tables.exec = Jvm.exec) (hg : g.method = m) {x y : Int64} {rest : List Value} (hd : decode c.code g.pc = .ok (.lrem, 1)) (hs : g.stack = .long y :: .long x :: rest) (hy : y ≠ 0)
    (hr : Steps p.tables e below (T.setTop { g with pc := g.pc + 1, stack := .long (x % y) :: rest }) target) : Steps p.tables e below (T.setTop g) target := by
  have q : x - x / y * y = x % y := lrem_mod x y
  exact XS.lrem X.here hx hg hd hs hy (by rw [q]; exact hr)
theorem own_selp {Z s : State} {a0 args : Array Value} {y : MethodName} {n : Nat} (hZ : Z.Warmed39 s.vm) (wi : (Cond.instantiable y.cls n).before a0 Z = true) (wp : (Cond.privateMethod y).before a0 Z = true) (wm : (Cond.instanceMethod y).before a0 Z = true)
    (hy : y.cls ≠ "java/lang/invoke/MethodHandle" ∧ y.cls ≠ "java/lang/invoke/VarHandle") : (Cond.selects y.cls y y).before args s = true := by
  obtain ⟨c, k, h1, h2, h3, h4, -⟩ := Cond.instantiable_spec (mvT (args := args) hZ wi)
  exact selects_self_of_private h1 h2 (by simp only [Bool.or_eq_false_iff] at h4; exact h4.1) (Cond.privateMethod_at (mvP hZ wp (args := #[]))) (mvT hZ wm) hy
end New
end Jvm.RoadKit
namespace Jvm.Pilot.@@N@@
open Jvm Jvm.ClassFile Sem Op Lib Jvm.Free Jvm.Stand Jvm.LawKit Jvm.RoadKit Bundle Jvm.Pilot.@@N@@.Jvm.D
theorem own_cp (vd vs : List Value) (d : Value) (dp nn sp : Nat) (hl : dp + nn ≤ vd.length) (i : Nat) : (vd.take dp ++ ((List.range nn).map fun j => vs.getD (sp + j) d) ++ vd.drop (dp + nn)).getD i d = if i < dp then vd.getD i d else if i < dp + nn then vs.getD (sp + (i - dp)) d else vd.getD i d := by
  have lt : (vd.take dp).length = dp := by rw [List.length_take]; omega
  simp only [List.getD_eq_getElem?_getD]
  have lu : ((List.range nn).map fun j => vs[sp + j]?.getD d).length = nn := by simp
  by_cases h1 : i < dp
  · rw [if_pos h1, List.append_assoc, List.getElem?_append_left (by omega), List.getElem?_take_of_lt h1]
  · rw [if_neg h1]
    by_cases h2 : i < dp + nn
    · rw [if_pos h2, List.append_assoc, List.getElem?_append_right (by omega), lt, List.getElem?_append_left (by omega)]
      rw [List.getElem?_map, List.getElem?_range (show i - dp < nn by omega)]; simp
    · rw [if_neg h2, List.getElem?_append_right (by rw [List.length_append]; omega), List.length_append, lt, lu, List.getElem?_drop, show dp + nn + (i - (dp + nn)) = i by omega]
theorem own_pad (vs : List Value) (d : Value) (i : Nat) : (vs ++ List.replicate 16 d).getD i d = vs.getD i d := pad_rep vs d 16 i
theorem own_padl (vs : List Value) (d : Value) : 16 ≤ (vs ++ List.replicate 16 d).length := by rw [List.length_append, List.length_replicate]; omega
theorem own_nat {x : Int32} (h : ¬ x < 0) : (x.toNatClampNeg : Int) = x.toInt := (nat_of h).symm
theorem own_set (vs : List Value) (d v : Value) (k i : Nat) (hk : k < vs.length) : (vs.set k v).getD i d = if i = k then v else vs.getD i d := by
  simp only [List.getD_eq_getElem?_getD]
  by_cases h : i = k
  · subst h; rw [if_pos rfl, List.getElem?_set_self hk]; rfl
  · rw [if_neg h, List.getElem?_set_ne (fun q => h q.symm)]
def Q9 (p1 p2 : Int32) (h0 : Heap) (n0 : Nat) (v : Option Value) (h : Heap) (L : List Loc) : Prop := v = some (.int (if p1 < p2 then p2 else p1)) ∧ Fr n0 L ∧ h = h0
theorem d9_0 : decode jdk_29_method_65_code 0 = .ok (.iload_n 0, 1) := by decide +kernel
theorem d9_1 : decode jdk_29_method_65_code 1 = .ok (.iload_n 1, 1) := by decide +kernel
theorem d9_2 : decode jdk_29_method_65_code 2 = .ok (.if_icmp .lt 7, 3) := by decide +kernel
theorem d9_5 : decode jdk_29_method_65_code 5 = .ok (.iload_n 0, 1) := by decide +kernel
theorem d9_6 : decode jdk_29_method_65_code 6 = .ok (.goto 4, 3) := by decide +kernel
theorem d9_9 : decode jdk_29_method_65_code 9 = .ok (.iload_n 1, 1) := by decide +kernel
theorem d9_10 : decode jdk_29_method_65_code 10 = .ok (.ireturn, 1) := by decide +kernel
theorem ef_rm9 (m : MethodId) (x0 : Int32) (x1 : Int32) : entryFrame m #[(.int x0), (.int x1)] 2 = mkF m 0 #[.val (.int x0), .val (.int x1)] [] := by first | (simp [entryFrame, mkF, argsToLocals, Value.category]; done) | rfl
set_option maxRecDepth 65536 in
set_option maxHeartbeats 40000000 in
theorem rm9 (l : Launch) (Z : State) (a0 : Array Value) (hw : ∀ d ∈ tables_1, d.before a0 Z = true) (ws : List Jvm.Cond) (p1 p2 : Int32) (h0 : Heap) (n0 : Nat) (Z0 : n0 ≤ h0.size) :
    MetFree l (⟨"java/lang/Math", "max", "(II)I"⟩ : MethodName) (head1 (Jvm.Cond.code (⟨"java/lang/Math", "max", "(II)I"⟩ : MethodName) jdk_29_method_65_code 2 (some .int) :: ws) ({ frames := 0, cells := 0, slots := 0, locals := 0 } : Room)) (fun a U => a = #[(.int p1), (.int p2)] ∧ Z.Warmed39 U.vm ∧ U.heap = h0) (fun _ _ _ _ _ => True) (fun _ U o U' => ∃ v L, o = .returned v ∧ Q9 p1 p2 h0 n0 v U'.heap L ∧ FrameEnd U o U' L ({ frames := 0, cells := 0, slots := 0, locals := 0 } : Room).cells ({ frames := 0, cells := 0, slots := 0, locals := 0 } : Room).slots) := by
  refine MetFree.of_bodySF (Jvm.Free.JP.mathPlain rfl (by decide +kernel)) hisR ?_
  intro p e s m args below meth c s₁ Bd hml0 hP hK
  obtain ⟨rfl, hZ, hh⟩ := hP
  have hx := Bd.exec
  have hby := Bd.bytes
  have hml : c.maxLocals = 2 := hml0
  have hown : s.vm.findClass "java/lang/Math" = some m.cls := findClass_of_methodNamed Bd.named
  have hnm := (name_of_methodNamed Bd.named Bd.method).1
  have X0 : Stand p l e ({ frames := 0, cells := 0, slots := 0, locals := 0 } : Room) s m #[(.int p1), (.int p2)] below meth c s₁ [] 0 0 := Stand.of_body Bd
  have e0 : s₁.heap = h0 := by rw [← hh, Bd.state]; rfl
  have N0 := Fr.nil n0
  have KP0 : Keep h0 h0 [] := Keep.refl h0 _
  obtain ⟨G, hG⟩ : ∃ G : State, G = s₁.setTop (entryFrame m #[(.int p1), (.int p2)] 2) := ⟨_, rfl⟩
  have pre0 : ∀ t, Steps p.tables e below (s₁.setTop (mkF m 0 #[.val (.int p1), .val (.int p2)] [])) t → Steps p.tables e below G t := fun t k => hG ▸ castTop (ef_rm9 m p1 p2) k
  have K1 : ∀ t, Steps p.tables e below (s₁.setTop (mkF m 2 #[.val (.int p1), .val (.int p2)] [(.int p2), (.int p1)])) t → Steps p.tables e below G t := by
    intro t k
    refine pre0 t ?_
    show Steps p.tables e below (s₁.setTop (mkF m 0 #[.val (.int p1), .val (.int p2)] [])) _
    refine XS.iloadN X0.here hx rfl (hb hby d9_0) rfl ?_
    show Steps p.tables e below (s₁.setTop (mkF m 1 #[.val (.int p1), .val (.int p2)] [(.int p1)])) _
    refine XS.iloadN X0.here hx rfl (hb hby d9_1) rfl ?_
    show Steps p.tables e below (s₁.setTop (mkF m 2 #[.val (.int p1), .val (.int p2)] [(.int p2), (.int p1)])) _
    exact k
  by_cases hc2 : p1 < p2
  · obtain ⟨fs, hr, hrun, hended, hW, hsame⟩ := X0.leave (v := some (.int p2)) (fun h => by rw [Bd.returns] at h; cases h)
    have KF := K1
    rw [hG] at KF
    refine ⟨_, _, KF _ ?_, hrun, hended, _, _, rfl, ?_, ⟨_, rfl⟩, hW, hsame.mono (by decide) (by decide)⟩
    · show Steps p.tables e below (s₁.setTop (mkF m 2 #[.val (.int p1), .val (.int p2)] [(.int p2), (.int p1)])) _
      refine XS.icmpYes X0.here hx rfl (pc0 := 2) (pc' := 9) rfl (hb hby d9_2) rfl (tlt hc2).1 (by decide) (by decide) ?_
      show Steps p.tables e below (s₁.setTop (mkF m 9 #[.val (.int p1), .val (.int p2)] [])) _
      refine XS.iloadN X0.here hx rfl (hb hby d9_9) rfl ?_
      show Steps p.tables e below (s₁.setTop (mkF m 10 #[.val (.int p1), .val (.int p2)] [(.int p2)])) _
      exact own_retI X0 hx Bd.returns (hb hby d9_10) hr
    · show Q9 p1 p2 h0 n0 _ s₁.heap _
      rw [e0]
      exact ⟨by simp only [if_pos hc2], N0, rfl⟩
  · obtain ⟨fs, hr, hrun, hended, hW, hsame⟩ := X0.leave (v := some (.int p1)) (fun h => by rw [Bd.returns] at h; cases h)
    have KF := K1
    rw [hG] at KF
    refine ⟨_, _, KF _ ?_, hrun, hended, _, _, rfl, ?_, ⟨_, rfl⟩, hW, hsame.mono (by decide) (by decide)⟩
    · show Steps p.tables e below (s₁.setTop (mkF m 2 #[.val (.int p1), .val (.int p2)] [(.int p2), (.int p1)])) _
      refine XS.icmpNo X0.here hx rfl (hb hby d9_2) rfl (flt hc2).1 ?_
      show Steps p.tables e below (s₁.setTop (mkF m 5 #[.val (.int p1), .val (.int p2)] [])) _
      refine XS.iloadN X0.here hx rfl (hb hby d9_5) rfl ?_
      show Steps p.tables e below (s₁.setTop (mkF m 6 #[.val (.int p1), .val (.int p2)] [(.int p1)])) _
      refine XS.goto X0.here hx rfl (pc0 := 6) (pc' := 10) rfl (hb hby d9_6) (by decide) (by decide) ?_
      show Steps p.tables e below (s₁.setTop (mkF m 10 #[.val (.int p1), .val (.int p2)] [(.int p1)])) _
      exact own_retI X0 hx Bd.returns (hb hby d9_10) hr
    · show Q9 p1 p2 h0 n0 _ s₁.heap _
      rw [e0]
      exact ⟨by simp only [if_neg hc2], N0, rfl⟩
def Q11 (p1 p2 : Int32) (h0 : Heap) (n0 : Nat) (v : Option Value) (h : Heap) (L : List Loc) : Prop := v = some (.int (if p2 < p1 then p2 else p1)) ∧ Fr n0 L ∧ h = h0
theorem d11_0 : decode jdk_29_method_69_code 0 = .ok (.iload_n 0, 1) := by decide +kernel
theorem d11_1 : decode jdk_29_method_69_code 1 = .ok (.iload_n 1, 1) := by decide +kernel
theorem d11_2 : decode jdk_29_method_69_code 2 = .ok (.if_icmp .gt 7, 3) := by decide +kernel
theorem d11_5 : decode jdk_29_method_69_code 5 = .ok (.iload_n 0, 1) := by decide +kernel
theorem d11_6 : decode jdk_29_method_69_code 6 = .ok (.goto 4, 3) := by decide +kernel
theorem d11_9 : decode jdk_29_method_69_code 9 = .ok (.iload_n 1, 1) := by decide +kernel
theorem d11_10 : decode jdk_29_method_69_code 10 = .ok (.ireturn, 1) := by decide +kernel
theorem ef_rm11 (m : MethodId) (x0 : Int32) (x1 : Int32) : entryFrame m #[(.int x0), (.int x1)] 2 = mkF m 0 #[.val (.int x0), .val (.int x1)] [] := by first | (simp [entryFrame, mkF, argsToLocals, Value.category]; done) | rfl
set_option maxRecDepth 65536 in
set_option maxHeartbeats 40000000 in
theorem rm11 (l : Launch) (Z : State) (a0 : Array Value) (hw : ∀ d ∈ tables_1, d.before a0 Z = true) (ws : List Jvm.Cond) (p1 p2 : Int32) (h0 : Heap) (n0 : Nat) (Z0 : n0 ≤ h0.size) :
    MetFree l (⟨"java/lang/Math", "min", "(II)I"⟩ : MethodName) (head1 (Jvm.Cond.code (⟨"java/lang/Math", "min", "(II)I"⟩ : MethodName) jdk_29_method_69_code 2 (some .int) :: ws) ({ frames := 0, cells := 0, slots := 0, locals := 0 } : Room)) (fun a U => a = #[(.int p1), (.int p2)] ∧ Z.Warmed39 U.vm ∧ U.heap = h0) (fun _ _ _ _ _ => True) (fun _ U o U' => ∃ v L, o = .returned v ∧ Q11 p1 p2 h0 n0 v U'.heap L ∧ FrameEnd U o U' L ({ frames := 0, cells := 0, slots := 0, locals := 0 } : Room).cells ({ frames := 0, cells := 0, slots := 0, locals := 0 } : Room).slots) := by
  refine MetFree.of_bodySF (Jvm.Free.JP.mathPlain rfl (by decide +kernel)) hisR ?_
  intro p e s m args below meth c s₁ Bd hml0 hP hK
  obtain ⟨rfl, hZ, hh⟩ := hP
  have hx := Bd.exec
  have hby := Bd.bytes
  have hml : c.maxLocals = 2 := hml0
  have hown : s.vm.findClass "java/lang/Math" = some m.cls := findClass_of_methodNamed Bd.named
  have hnm := (name_of_methodNamed Bd.named Bd.method).1
  have X0 : Stand p l e ({ frames := 0, cells := 0, slots := 0, locals := 0 } : Room) s m #[(.int p1), (.int p2)] below meth c s₁ [] 0 0 := Stand.of_body Bd
  have e0 : s₁.heap = h0 := by rw [← hh, Bd.state]; rfl
  have N0 := Fr.nil n0
  have KP0 : Keep h0 h0 [] := Keep.refl h0 _
  obtain ⟨G, hG⟩ : ∃ G : State, G = s₁.setTop (entryFrame m #[(.int p1), (.int p2)] 2) := ⟨_, rfl⟩
  have pre0 : ∀ t, Steps p.tables e below (s₁.setTop (mkF m 0 #[.val (.int p1), .val (.int p2)] [])) t → Steps p.tables e below G t := fun t k => hG ▸ castTop (ef_rm11 m p1 p2) k
  have K1 : ∀ t, Steps p.tables e below (s₁.setTop (mkF m 2 #[.val (.int p1), .val (.int p2)] [(.int p2), (.int p1)])) t → Steps p.tables e below G t := by
    intro t k
    refine pre0 t ?_
    show Steps p.tables e below (s₁.setTop (mkF m 0 #[.val (.int p1), .val (.int p2)] [])) _
    refine XS.iloadN X0.here hx rfl (hb hby d11_0) rfl ?_
    show Steps p.tables e below (s₁.setTop (mkF m 1 #[.val (.int p1), .val (.int p2)] [(.int p1)])) _
    refine XS.iloadN X0.here hx rfl (hb hby d11_1) rfl ?_
    show Steps p.tables e below (s₁.setTop (mkF m 2 #[.val (.int p1), .val (.int p2)] [(.int p2), (.int p1)])) _
    exact k
  by_cases hc2 : p2 < p1
  · obtain ⟨fs, hr, hrun, hended, hW, hsame⟩ := X0.leave (v := some (.int p2)) (fun h => by rw [Bd.returns] at h; cases h)
    have KF := K1
    rw [hG] at KF
    refine ⟨_, _, KF _ ?_, hrun, hended, _, _, rfl, ?_, ⟨_, rfl⟩, hW, hsame.mono (by decide) (by decide)⟩
    · show Steps p.tables e below (s₁.setTop (mkF m 2 #[.val (.int p1), .val (.int p2)] [(.int p2), (.int p1)])) _
      refine XS.icmpYes X0.here hx rfl (pc0 := 2) (pc' := 9) rfl (hb hby d11_2) rfl (tlt hc2).2.2.1 (by decide) (by decide) ?_
      show Steps p.tables e below (s₁.setTop (mkF m 9 #[.val (.int p1), .val (.int p2)] [])) _
      refine XS.iloadN X0.here hx rfl (hb hby d11_9) rfl ?_
      show Steps p.tables e below (s₁.setTop (mkF m 10 #[.val (.int p1), .val (.int p2)] [(.int p2)])) _
      exact own_retI X0 hx Bd.returns (hb hby d11_10) hr
    · show Q11 p1 p2 h0 n0 _ s₁.heap _
      rw [e0]
      exact ⟨by simp only [if_pos hc2], N0, rfl⟩
  · obtain ⟨fs, hr, hrun, hended, hW, hsame⟩ := X0.leave (v := some (.int p1)) (fun h => by rw [Bd.returns] at h; cases h)
    have KF := K1
    rw [hG] at KF
    refine ⟨_, _, KF _ ?_, hrun, hended, _, _, rfl, ?_, ⟨_, rfl⟩, hW, hsame.mono (by decide) (by decide)⟩
    · show Steps p.tables e below (s₁.setTop (mkF m 2 #[.val (.int p1), .val (.int p2)] [(.int p2), (.int p1)])) _
      refine XS.icmpNo X0.here hx rfl (hb hby d11_2) rfl (flt hc2).2.2.1 ?_
      show Steps p.tables e below (s₁.setTop (mkF m 5 #[.val (.int p1), .val (.int p2)] [])) _
      refine XS.iloadN X0.here hx rfl (hb hby d11_5) rfl ?_
      show Steps p.tables e below (s₁.setTop (mkF m 6 #[.val (.int p1), .val (.int p2)] [(.int p1)])) _
      refine XS.goto X0.here hx rfl (pc0 := 6) (pc' := 10) rfl (hb hby d11_6) (by decide) (by decide) ?_
      show Steps p.tables e below (s₁.setTop (mkF m 10 #[.val (.int p1), .val (.int p2)] [(.int p1)])) _
      exact own_retI X0 hx Bd.returns (hb hby d11_10) hr
    · show Q11 p1 p2 h0 n0 _ s₁.heap _
      rw [e0]
      exact ⟨by simp only [if_neg hc2], N0, rfl⟩
def Q1 (Z : State) (a1 : Addr) (p2 : Int32) (h0 : Heap) (n0 : Nat) (v : Option Value) (h : Heap) (L : List Loc) : Prop := ∃ (b : Addr) (k : ClassId), v = none ∧ Fr n0 L ∧ Keep h0 h [a1] ∧ h0.size ≤ b ∧ Exa Z h a1 "org/arborlog/pattern/LineText" ∧ Fld Z h a1 "org/arborlog/pattern/LineText" "chars" "[C" (.ref b) ∧ Fld Z h a1 "org/arborlog/pattern/LineText" "length" "I" (.int (0 : Int32)) ∧ Arv Z h b k .char p2 [] (Value.int (0 : Int32))
theorem d1_0 : decode prog_20_method_1_code 0 = .ok (.aload_n 0, 1) := by decide +kernel
theorem d1_1 : decode prog_20_method_1_code 1 = .ok (.invokespecial 1, 3) := by decide +kernel
theorem d1_4 : decode prog_20_method_1_code 4 = .ok (.aload_n 0, 1) := by decide +kernel
theorem d1_5 : decode prog_20_method_1_code 5 = .ok (.iload_n 1, 1) := by decide +kernel
theorem d1_6 : decode prog_20_method_1_code 6 = .ok (.newarray .char, 2) := by decide +kernel
theorem d1_8 : decode prog_20_method_1_code 8 = .ok (.putfield 7, 3) := by decide +kernel
theorem d1_11 : decode prog_20_method_1_code 11 = .ok (.return_, 1) := by decide +kernel
theorem pn_org_arborlog_pattern_LineText : plainName "org/arborlog/pattern/LineText" = true := by first | (simp [plainName, overriddenIn]; done) | decide +kernel
theorem ef_rm1 (m : MethodId) (x0 : Addr) (x1 : Int32) : entryFrame m #[(.ref x0), (.int x1)] 2 = mkF m 0 #[.val (.ref x0), .val (.int x1)] [] := by first | (simp [entryFrame, mkF, argsToLocals, Value.category]; done) | rfl
set_option maxRecDepth 65536 in
set_option maxHeartbeats 40000000 in
theorem rm1 (l : Launch) (Z : State) (a0 : Array Value) (hw : ∀ d ∈ tables_1, d.before a0 Z = true) (ws : List Jvm.Cond) (a1 : Addr) (p2 : Int32) (h0 : Heap) (n0 : Nat) (Z0 : n0 ≤ h0.size) (E1 : Exa Z h0 a1 "org/arborlog/pattern/LineText") (F1 : Fld Z h0 a1 "org/arborlog/pattern/LineText" "chars" "[C" .null) (F2 : Fld Z h0 a1 "org/arborlog/pattern/LineText" "length" "I" (.int (0 : Int32))) (g1 : n0 ≤ a1) (hp0 : ¬ p2 < 0) (hp8 : p2.toNatClampNeg ≤ 8) :
    MetFree l (⟨"org/arborlog/pattern/LineText", "<init>", "(I)V"⟩ : MethodName) (head1 (Jvm.Cond.code (⟨"org/arborlog/pattern/LineText", "<init>", "(I)V"⟩ : MethodName) prog_20_method_1_code 2 none :: ws) ({ frames := 1, cells := 1, slots := 8, locals := 12 } : Room)) (fun a U => a = #[(.ref a1), (.int p2)] ∧ Z.Warmed39 U.vm ∧ U.heap = h0) (fun _ _ _ _ _ => True) (fun _ U o U' => ∃ v L, o = .returned v ∧ Q1 Z a1 p2 h0 n0 v U'.heap L ∧ FrameEnd U o U' L ({ frames := 1, cells := 1, slots := 8, locals := 12 } : Room).cells ({ frames := 1, cells := 1, slots := 8, locals := 12 } : Room).slots) := by
  refine MetFree.of_bodySF (plainFor_of_name pn_org_arborlog_pattern_LineText) hisR ?_
  intro p e s m args below meth c s₁ Bd hml0 hP hK
  obtain ⟨rfl, hZ, hh⟩ := hP
  have hx := Bd.exec
  have hby := Bd.bytes
  have hml : c.maxLocals = 2 := hml0
  have hown : s.vm.findClass "org/arborlog/pattern/LineText" = some m.cls := findClass_of_methodNamed Bd.named
  have hnm := (name_of_methodNamed Bd.named Bd.method).1
  have X0 : Stand p l e ({ frames := 1, cells := 1, slots := 8, locals := 12 } : Room) s m #[(.ref a1), (.int p2)] below meth c s₁ [] 0 0 := Stand.of_body Bd
  have e0 : s₁.heap = h0 := by rw [← hh, Bd.state]; rfl
  have N0 := Fr.nil n0
  have KP0 : Keep h0 h0 [a1] := Keep.refl h0 _
  obtain ⟨G, hG⟩ : ∃ G : State, G = s₁.setTop (entryFrame m #[(.ref a1), (.int p2)] 2) := ⟨_, rfl⟩
  have pre0 : ∀ t, Steps p.tables e below (s₁.setTop (mkF m 0 #[.val (.ref a1), .val (.int p2)] [])) t → Steps p.tables e below G t := fun t k => hG ▸ castTop (ef_rm1 m a1 p2) k
  have K1 : ∀ t, Steps p.tables e below (s₁.setTop (mkF m 1 #[.val (.ref a1), .val (.int p2)] [(.ref a1)])) t → Steps p.tables e below G t := by
    intro t k
    refine pre0 t ?_
    show Steps p.tables e below (s₁.setTop (mkF m 0 #[.val (.ref a1), .val (.int p2)] [])) _
    refine XS.aloadN X0.here hx rfl (hb hby d1_0) rfl rfl ?_
    show Steps p.tables e below (s₁.setTop (mkF m 1 #[.val (.ref a1), .val (.int p2)] [(.ref a1)])) _
    exact k
  obtain ⟨T2, X2, e2, st2⟩ := initO X0 hx hZ hown (hw _ (List.mem_of_getElem? (i := 8) rfl)) (hw _ (List.mem_of_getElem? (i := 9) rfl)) (hw _ (List.mem_of_getElem? (i := 10) rfl)) e0 (g := (mkF m 1 #[.val (.ref a1), .val (.int p2)] [(.ref a1)])) rfl (by rw [hml]; rfl) rfl (hb hby d1_1) (by decide) (W := 0) (by show 2 * 0 + _ ≤ _; exact Nat.le_of_eq rfl) (by decide)
  have K3 : ∀ t, Steps p.tables e below (T2.setTop (mkF m 4 #[.val (.ref a1), .val (.int p2)] [])) t → Steps p.tables e below G t := fun t k => K1 t (st2 t k)
  have K4 : ∀ t, Steps p.tables e below (T2.setTop (mkF m 6 #[.val (.ref a1), .val (.int p2)] [(.int p2), (.ref a1)])) t → Steps p.tables e below G t := by
    intro t k
    refine K3 t ?_
    show Steps p.tables e below (T2.setTop (mkF m 4 #[.val (.ref a1), .val (.int p2)] [])) _
    refine XS.aloadN X2.here hx rfl (hb hby d1_4) rfl rfl ?_
    show Steps p.tables e below (T2.setTop (mkF m 5 #[.val (.ref a1), .val (.int p2)] [(.ref a1)])) _
    refine XS.iloadN X2.here hx rfl (hb hby d1_5) rfl ?_
    show Steps p.tables e below (T2.setTop (mkF m 6 #[.val (.ref a1), .val (.int p2)] [(.int p2), (.ref a1)])) _
    exact k
  obtain ⟨T5, h5, kn5, X5, e5, E5, A5, st5⟩ := newP X2 hx hZ (hw _ (List.mem_of_getElem? (i := 1) rfl)) e2 (g := (mkF m 6 #[.val (.ref a1), .val (.int p2)] [(.int p2), (.ref a1)])) rfl (hb hby d1_6) rfl hp0 (cap := 8) hp8 (by decide) (by decide) (by decide)
  obtain ⟨b5, g5⟩ : ∃ z, z = h0.size := ⟨_, rfl⟩
  rw [← g5] at A5 st5
  have ne_a1_b5 : a1 ≠ b5 := Nat.ne_of_lt (Nat.lt_of_lt_of_le E1.lt (Nat.le_of_eq g5.symm))
  have g_b5 : n0 ≤ b5 := Nat.le_trans Z0 (Nat.le_of_eq g5.symm)
  have sz_b5 : h0.size ≤ b5 := Nat.le_trans KP0.1 (Nat.le_of_eq g5.symm)
  have f6 := E1.ext E5
  have f7 := F1.ext E5
  have f8 := F2.ext E5
  have Z9 : n0 ≤ h5.size := Nat.le_trans Z0 E5.1
  have KP10 : Keep h0 h5 [a1] := KP0.ext E5
  have K11 : ∀ t, Steps p.tables e below (T5.setTop (mkF m 8 #[.val (.ref a1), .val (.int p2)] [(.ref b5), (.ref a1)])) t → Steps p.tables e below G t := fun t k => K4 t (st5 t k)
  have V5 : Arv Z h5 b5 kn5 .char p2 [] (.int (0 : Int32)) := Arv.new A5 hp0
  obtain ⟨T12, h12, X12, e12, W12, st12⟩ := putF X5 hx hZ hown (host := "") (Or.inl (hw _ (List.mem_of_getElem? (i := 11) rfl))) Via.refl e5 f7 f6 (Or.inl (hw _ (List.mem_of_getElem? (i := 12) rfl))) (hw _ (List.mem_of_getElem? (i := 3) rfl)) (ty := (.array .char)) (by decide) rfl rfl (g := (mkF m 8 #[.val (.ref a1), .val (.int p2)] [(.ref b5), (.ref a1)])) rfl rfl (hb hby d1_8)
  have K13 : ∀ t, Steps p.tables e below (T12.setTop (mkF m 11 #[.val (.ref a1), .val (.int p2)] [])) t → Steps p.tables e below G t := fun t k => K11 t (st12 t k)
  have f14 := f6.wr W12
  have f15 := f7.same W12
  have f16 := f8.other W12 (Or.inr (slot_ne (Or.inl (hw _ (List.mem_of_getElem? (i := 19) rfl))) (Or.inl (hw _ (List.mem_of_getElem? (i := 12) rfl))) (by decide) (t := .int) (t' := (.array .char)) (by decide) (by decide)))
  have f17 := V5.other W12 (Ne.symm ne_a1_b5)
  have Z18 : n0 ≤ h12.size := Nat.le_trans Z9 (Keep.of_wr W12).1
  have KP19 : Keep h0 h12 [a1] := KP10.wr W12 (Or.inl (List.mem_of_getElem? (i := 0) rfl))
  have N20 := Fr.snoc X12 N0 g1
  obtain ⟨fs, hr, hrun, hended, hW, hsame⟩ := X12.leave (v := none) (fun _ => rfl)
  have KF := K13
  rw [hG] at KF
  refine ⟨_, _, KF _ ?_, hrun, hended, _, _, rfl, ?_, ⟨_, rfl⟩, hW, hsame.mono (by decide) (by decide)⟩
  · show Steps p.tables e below (T12.setTop (mkF m 11 #[.val (.ref a1), .val (.int p2)] [])) _
    exact X12.returnOut hx Bd.returns (hb hby d1_11) hr
  · show Q1 Z a1 p2 h0 n0 _ T12.heap _
    rw [e12]
    exact ⟨b5, _, rfl, N20, KP19, sz_b5, f14, f15, f16, f17⟩
def Q10 (Z : State) (z p2 : Int32) (vs : List Value) (h0 : Heap) (n0 : Nat) (v : Option Value) (h : Heap) (L : List Loc) : Prop := ∃ (b : Addr) (k : ClassId) (vs' : List Value), v = some (.ref b) ∧ Fr n0 L ∧ Keep h0 h [] ∧ h0.size ≤ b ∧ Arv Z h b k .char p2 vs' (Value.int (0 : Int32)) ∧ ∀ i : Nat, i < z.toNatClampNeg → vs'.getD i (Value.int (0 : Int32)) = vs.getD i (Value.int (0 : Int32))
theorem d10_0 : decode jdk_65_method_125_code 0 = .ok (.iload_n 1, 1) := by decide +kernel
theorem d10_1 : decode jdk_65_method_125_code 1 = .ok (.aload_n 0, 1) := by decide +kernel
theorem d10_2 : decode jdk_65_method_125_code 2 = .ok (.arraylength, 1) := by decide +kernel
theorem d10_3 : decode jdk_65_method_125_code 3 = .ok (.if_icmp .ne 11, 3) := by decide +kernel
theorem d10_6 : decode jdk_65_method_125_code 6 = .ok (.aload_n 0, 1) := by decide +kernel
theorem d10_7 : decode jdk_65_method_125_code 7 = .ok (.invokevirtual 322, 3) := by decide +kernel
theorem d10_10 : decode jdk_65_method_125_code 10 = .ok (.checkcast 323, 3) := by decide +kernel
theorem d10_13 : decode jdk_65_method_125_code 13 = .ok (.areturn, 1) := by decide +kernel
theorem d10_14 : decode jdk_65_method_125_code 14 = .ok (.iload_n 1, 1) := by decide +kernel
theorem d10_15 : decode jdk_65_method_125_code 15 = .ok (.newarray .char, 2) := by decide +kernel
theorem d10_17 : decode jdk_65_method_125_code 17 = .ok (.astore_n 2, 1) := by decide +kernel
theorem d10_18 : decode jdk_65_method_125_code 18 = .ok (.aload_n 0, 1) := by decide +kernel
theorem d10_19 : decode jdk_65_method_125_code 19 = .ok (.iconst 0, 1) := by decide +kernel
theorem d10_20 : decode jdk_65_method_125_code 20 = .ok (.aload_n 2, 1) := by decide +kernel
theorem d10_21 : decode jdk_65_method_125_code 21 = .ok (.iconst 0, 1) := by decide +kernel
theorem d10_22 : decode jdk_65_method_125_code 22 = .ok (.aload_n 0, 1) := by decide +kernel
theorem d10_23 : decode jdk_65_method_125_code 23 = .ok (.arraylength, 1) := by decide +kernel
theorem d10_24 : decode jdk_65_method_125_code 24 = .ok (.iload_n 1, 1) := by decide +kernel
theorem d10_25 : decode jdk_65_method_125_code 25 = .ok (.invokestatic 304, 3) := by decide +kernel
theorem d10_28 : decode jdk_65_method_125_code 28 = .ok (.invokestatic 150, 3) := by decide +kernel
theorem d10_31 : decode jdk_65_method_125_code 31 = .ok (.aload_n 2, 1) := by decide +kernel
theorem d10_32 : decode jdk_65_method_125_code 32 = .ok (.areturn, 1) := by decide +kernel
theorem pn_java_util_Arrays : plainName "java/util/Arrays" = true := by first | (simp [plainName, overriddenIn]; done) | decide +kernel
theorem pd_0 : parseMethodDescriptor "(II)I" = some ⟨[.int, .int], some .int⟩ := by decide +kernel
theorem ef_rm10 (m : MethodId) (x0 : Addr) (x1 : Int32) : entryFrame m #[(.ref x0), (.int x1)] 3 = mkF m 0 #[.val (.ref x0), .val (.int x1), .unset] [] := by first | (simp [entryFrame, mkF, argsToLocals, Value.category]; done) | rfl
set_option maxRecDepth 65536 in
set_option maxHeartbeats 40000000 in
theorem rm10 (l : Launch) (Z : State) (a0 : Array Value) (hw : ∀ d ∈ tables_1, d.before a0 Z = true) (ws : List Jvm.Cond) (a1 : Addr) (p2 : Int32) (k : ClassId) (z : Int32) (vs : List Value) (h0 : Heap) (n0 : Nat) (Z0 : n0 ≤ h0.size) (V1 : Arv Z h0 a1 k .char z vs (Value.int (0 : Int32))) (hlt : z < p2) (hz0 : ¬ z < 0) (hp0 : ¬ p2 < 0) (hp8 : p2.toNatClampNeg ≤ 10) :
    MetFree l (⟨"java/util/Arrays", "copyOf", "([CI)[C"⟩ : MethodName) (head1 (Jvm.Cond.code (⟨"java/util/Arrays", "copyOf", "([CI)[C"⟩ : MethodName) jdk_65_method_125_code 3 (some (.array .char)) :: ws) ({ frames := 1, cells := 1, slots := 10, locals := 18 } : Room)) (fun a U => a = #[(.ref a1), (.int p2)] ∧ Z.Warmed39 U.vm ∧ U.heap = h0) (fun _ _ _ _ _ => True) (fun _ U o U' => ∃ v L, o = .returned v ∧ Q10 Z z p2 vs h0 n0 v U'.heap L ∧ FrameEnd U o U' L ({ frames := 1, cells := 1, slots := 10, locals := 18 } : Room).cells ({ frames := 1, cells := 1, slots := 10, locals := 18 } : Room).slots) := by
  refine MetFree.of_bodySF (plainFor_of_name pn_java_util_Arrays) hisR ?_
  intro p e s m args below meth c s₁ Bd hml0 hP hK
  obtain ⟨rfl, hZ, hh⟩ := hP
  have hx := Bd.exec
  have hby := Bd.bytes
  have hml : c.maxLocals = 3 := hml0
  have hown : s.vm.findClass "java/util/Arrays" = some m.cls := findClass_of_methodNamed Bd.named
  have hnm := (name_of_methodNamed Bd.named Bd.method).1
  have X0 : Stand p l e ({ frames := 1, cells := 1, slots := 10, locals := 18 } : Room) s m #[(.ref a1), (.int p2)] below meth c s₁ [] 0 0 := Stand.of_body Bd
  have e0 : s₁.heap = h0 := by rw [← hh, Bd.state]; rfl
  have N0 := Fr.nil n0
  have KP0 : Keep h0 h0 [] := Keep.refl h0 _
  obtain ⟨G, hG⟩ : ∃ G : State, G = s₁.setTop (entryFrame m #[(.ref a1), (.int p2)] 3) := ⟨_, rfl⟩
  have pre0 : ∀ t, Steps p.tables e below (s₁.setTop (mkF m 0 #[.val (.ref a1), .val (.int p2), .unset] [])) t → Steps p.tables e below G t := fun t k => hG ▸ castTop (ef_rm10 m a1 p2) k
  have K1 : ∀ t, Steps p.tables e below (s₁.setTop (mkF m 2 #[.val (.ref a1), .val (.int p2), .unset] [(.ref a1), (.int p2)])) t → Steps p.tables e below G t := by
    intro t k
    refine pre0 t ?_
    show Steps p.tables e below (s₁.setTop (mkF m 0 #[.val (.ref a1), .val (.int p2), .unset] [])) _
    refine XS.iloadN X0.here hx rfl (hb hby d10_0) rfl ?_
    show Steps p.tables e below (s₁.setTop (mkF m 1 #[.val (.ref a1), .val (.int p2), .unset] [(.int p2)])) _
    refine XS.aloadN X0.here hx rfl (hb hby d10_1) rfl rfl ?_
    show Steps p.tables e below (s₁.setTop (mkF m 2 #[.val (.ref a1), .val (.int p2), .unset] [(.ref a1), (.int p2)])) _
    exact k
  obtain ⟨cl2, Ar2, -, S2, M2, -, -⟩ := id V1
  have K3 : ∀ t, Steps p.tables e below (s₁.setTop (mkF m 3 #[.val (.ref a1), .val (.int p2), .unset] [(.int z), (.int p2)])) t → Steps p.tables e below G t := by
    intro t k
    refine K1 t ?_
    refine X0.arraylength hx (by rw [e0]; exact Ar2.1) (State.isArrayOf_alike hZ.alike Ar2.2.1) (g := (mkF m 2 #[.val (.ref a1), .val (.int p2), .unset] [(.ref a1), (.int p2)])) rfl rfl (hb hby d10_2) _ ?_
    rw [len_of S2 M2]
    exact k
  have K4 : ∀ t, Steps p.tables e below (s₁.setTop (mkF m 15 #[.val (.ref a1), .val (.int p2), .unset] [(.int p2)])) t → Steps p.tables e below G t := by
    intro t k
    refine K3 t ?_
    show Steps p.tables e below (s₁.setTop (mkF m 3 #[.val (.ref a1), .val (.int p2), .unset] [(.int z), (.int p2)])) _
    refine XS.icmpYes X0.here hx rfl (pc0 := 3) (pc' := 14) rfl (hb hby d10_3) rfl (feq (fun q : p2 = z => by subst q; exact Int32.lt_irrefl hlt)).2 (by decide) (by decide) ?_
    show Steps p.tables e below (s₁.setTop (mkF m 14 #[.val (.ref a1), .val (.int p2), .unset] [])) _
    refine XS.iloadN X0.here hx rfl (hb hby d10_14) rfl ?_
    show Steps p.tables e below (s₁.setTop (mkF m 15 #[.val (.ref a1), .val (.int p2), .unset] [(.int p2)])) _
    exact k
  obtain ⟨T5, h5, kn5, X5, e5, E5, A5, st5⟩ := newP X0 hx hZ (hw _ (List.mem_of_getElem? (i := 1) rfl)) e0 (g := (mkF m 15 #[.val (.ref a1), .val (.int p2), .unset] [(.int p2)])) rfl (hb hby d10_15) rfl hp0 (cap := 10) hp8 (by decide) (by decide) (by decide)
  obtain ⟨b5, g5⟩ : ∃ z, z = h0.size := ⟨_, rfl⟩
  rw [← g5] at A5 st5
  have ne_a1_b5 : a1 ≠ b5 := Nat.ne_of_lt (Nat.lt_of_lt_of_le V1.lt (Nat.le_of_eq g5.symm))
  have g_b5 : n0 ≤ b5 := Nat.le_trans Z0 (Nat.le_of_eq g5.symm)
  have sz_b5 : h0.size ≤ b5 := Nat.le_trans KP0.1 (Nat.le_of_eq g5.symm)
  have f6 := V1.ext E5
  have Z7 : n0 ≤ h5.size := Nat.le_trans Z0 E5.1
  have KP8 : Keep h0 h5 [] := KP0.ext E5
  have K9 : ∀ t, Steps p.tables e below (T5.setTop (mkF m 17 #[.val (.ref a1), .val (.int p2), .unset] [(.ref b5)])) t → Steps p.tables e below G t := fun t k => K4 t (st5 t k)
  have V5 : Arv Z h5 b5 kn5 .char p2 [] (.int (0 : Int32)) := Arv.new A5 hp0
  have K10 : ∀ t, Steps p.tables e below (T5.setTop (mkF m 23 #[.val (.ref a1), .val (.int p2), .val (.ref b5)] [(.ref a1), (.int (0 : Int32)), (.ref b5), (.int (0 : Int32)), (.ref a1)])) t → Steps p.tables e below G t := by
    intro t k
    refine K9 t ?_
    show Steps p.tables e below (T5.setTop (mkF m 17 #[.val (.ref a1), .val (.int p2), .unset] [(.ref b5)])) _
    refine XS.astoreN X5.here hx rfl (hb hby d10_17) rfl rfl (l' := #[.val (.ref a1), .val (.int p2), .val (.ref b5)]) rfl ?_
    show Steps p.tables e below (T5.setTop (mkF m 18 #[.val (.ref a1), .val (.int p2), .val (.ref b5)] [])) _
    refine XS.aloadN X5.here hx rfl (hb hby d10_18) rfl rfl ?_
    show Steps p.tables e below (T5.setTop (mkF m 19 #[.val (.ref a1), .val (.int p2), .val (.ref b5)] [(.ref a1)])) _
    refine XS.iconst X5.here hx rfl (hb hby d10_19) ?_
    show Steps p.tables e below (T5.setTop (mkF m 20 #[.val (.ref a1), .val (.int p2), .val (.ref b5)] [(.int (0 : Int32)), (.ref a1)])) _
    refine XS.aloadN X5.here hx rfl (hb hby d10_20) rfl rfl ?_
    show Steps p.tables e below (T5.setTop (mkF m 21 #[.val (.ref a1), .val (.int p2), .val (.ref b5)] [(.ref b5), (.int (0 : Int32)), (.ref a1)])) _
    refine XS.iconst X5.here hx rfl (hb hby d10_21) ?_
    show Steps p.tables e below (T5.setTop (mkF m 22 #[.val (.ref a1), .val (.int p2), .val (.ref b5)] [(.int (0 : Int32)), (.ref b5), (.int (0 : Int32)), (.ref a1)])) _
    refine XS.aloadN X5.here hx rfl (hb hby d10_22) rfl rfl ?_
    show Steps p.tables e below (T5.setTop (mkF m 23 #[.val (.ref a1), .val (.int p2), .val (.ref b5)] [(.ref a1), (.int (0 : Int32)), (.ref b5), (.int (0 : Int32)), (.ref a1)])) _
    exact k
  obtain ⟨cl11, Ar11, -, S11, M11, -, -⟩ := id f6
  have K12 : ∀ t, Steps p.tables e below (T5.setTop (mkF m 24 #[.val (.ref a1), .val (.int p2), .val (.ref b5)] [(.int z), (.int (0 : Int32)), (.ref b5), (.int (0 : Int32)), (.ref a1)])) t → Steps p.tables e below G t := by
    intro t k
    refine K10 t ?_
    refine X5.arraylength hx (by rw [e5]; exact Ar11.1) (State.isArrayOf_alike hZ.alike Ar11.2.1) (g := (mkF m 23 #[.val (.ref a1), .val (.int p2), .val (.ref b5)] [(.ref a1), (.int (0 : Int32)), (.ref b5), (.int (0 : Int32)), (.ref a1)])) rfl rfl (hb hby d10_23) _ ?_
    rw [len_of S11 M11]
    exact k
  have K13 : ∀ t, Steps p.tables e below (T5.setTop (mkF m 25 #[.val (.ref a1), .val (.int p2), .val (.ref b5)] [(.int p2), (.int z), (.int (0 : Int32)), (.ref b5), (.int (0 : Int32)), (.ref a1)])) t → Steps p.tables e below G t := by
    intro t k
    refine K12 t ?_
    show Steps p.tables e below (T5.setTop (mkF m 24 #[.val (.ref a1), .val (.int p2), .val (.ref b5)] [(.int z), (.int (0 : Int32)), (.ref b5), (.int (0 : Int32)), (.ref a1)])) _
    refine XS.iloadN X5.here hx rfl (hb hby d10_24) rfl ?_
    show Steps p.tables e below (T5.setTop (mkF m 25 #[.val (.ref a1), .val (.int p2), .val (.ref b5)] [(.int p2), (.int z), (.int (0 : Int32)), (.ref b5), (.int (0 : Int32)), (.ref a1)])) _
    exact k
  obtain ⟨_, _, ⟨T14, L14, kk14, nn14⟩, -, X14, ⟨Lc14, hQ14, lq14, yq14, zq14⟩, st14⟩ := Jvm.LawKit.callS X5 hx (y := (⟨"java/lang/Math", "min", "(II)I"⟩ : MethodName)) hown (mvT hZ (hw _ (List.mem_of_getElem? (i := 55) rfl))) (mvT hZ (hw _ (List.mem_of_getElem? (i := 56) rfl))) (mvT hZ (hw _ (List.mem_of_getElem? (i := 49) rfl))) (mvT hZ (hw _ (List.mem_of_getElem? (i := 57) rfl))) (by decide) (backOf (W := 4) (rm11 l Z a0 hw [] z p2 h5 n0 Z7 ) hZ (hw _ (List.mem_of_getElem? (i := 57) rfl)) (hw _ (List.mem_of_getElem? (i := 49) rfl)) (by decide) (by decide)) (g := (mkF m 25 #[.val (.ref a1), .val (.int p2), .val (.ref b5)] [(.int p2), (.int z), (.int (0 : Int32)), (.ref b5), (.int (0 : Int32)), (.ref a1)])) rfl (by rw [hml]; rfl) (argsL := [(.int z), (.int p2)]) (rest := [(.int (0 : Int32)), (.ref b5), (.int (0 : Int32)), (.ref a1)]) (lenOf pd_0 rfl) rfl (by show 2 * 0 + _ ≤ _; exact Nat.le_of_eq rfl) (hb hby d10_25) (fun _ _ => ⟨rfl, e5, (by decide : 1 + 0 ≤ _), (by decide : 10 + 0 ≤ _)⟩)
  dsimp only [Pt.U, Pt.locs, Pt.cells, Pt.slots] at X14 lq14 yq14 zq14 st14 hQ14
  subst lq14 yq14 zq14
  obtain ⟨rfl, Nq14, e14⟩ := hQ14
  have N15 := Fr.app N0 Nq14
  have K16 : ∀ t, Steps p.tables e below (T14.setTop (mkF m 28 #[.val (.ref a1), .val (.int p2), .val (.ref b5)] [(.int (if p2 < z then p2 else z)), (.int (0 : Int32)), (.ref b5), (.int (0 : Int32)), (.ref a1)])) t → Steps p.tables e below G t := fun t k => K13 t (st14 _ k)
  have hmin : (if p2 < z then p2 else z) = z := if_neg (fun q => by rw [Int32.lt_iff_toInt_lt] at q hlt; omega)
  have K17 : ∀ t, Steps p.tables e below (T14.setTop (mkF m 28 #[.val (.ref a1), .val (.int p2), .val (.ref b5)] [(.int z), (.int (0 : Int32)), (.ref b5), (.int (0 : Int32)), (.ref a1)])) t → Steps p.tables e below G t := by have q := K16; rw [hmin] at q; exact q
  have VP19 : Arv Z h5 b5 kn5 .char p2 ([] ++ List.replicate 16 (Value.int (0 : Int32))) (Value.int (0 : Int32)) := V5.pad (pad_rep [] (Value.int (0 : Int32)) 16)
  have hz8 : z.toNatClampNeg ≤ p2.toNatClampNeg := by rw [Int32.lt_iff_toInt_lt] at hlt; simp only [Int32.toNatClampNeg]; omega
  obtain ⟨T18, h18, L18, X18, e18, N18, K18, V18, st18⟩ := cpA X14 hx hZ hown (hw _ (List.mem_of_getElem? (i := 58) rfl)) (hw _ (List.mem_of_getElem? (i := 23) rfl)) (hw _ (List.mem_of_getElem? (i := 21) rfl)) (hw _ (List.mem_of_getElem? (i := 22) rfl)) e14 f6 VP19 (Or.inl ⟨rfl, rfl⟩) (by decide) (by decide) hz0 (by show 0 + z.toNatClampNeg ≤ _; omega) (by show 0 + z.toNatClampNeg ≤ _; omega) rfl (by show 0 + z.toNatClampNeg ≤ 16; omega) N15 g_b5 (g := (mkF m 28 #[.val (.ref a1), .val (.int p2), .val (.ref b5)] [(.int z), (.int (0 : Int32)), (.ref b5), (.int (0 : Int32)), (.ref a1)])) rfl (by rw [hml]; rfl) rfl (hb hby d10_28) (by decide) (W := 0) (by show 2 * 0 + _ ≤ _; exact Nat.le_of_eq rfl) (by decide)
  have K20 : ∀ t, Steps p.tables e below (T18.setTop (mkF m 31 #[.val (.ref a1), .val (.int p2), .val (.ref b5)] [])) t → Steps p.tables e below G t := fun t k => K17 t (st18 t k)
  have f21 := f6.keep K18 (ninS ne_a1_b5 nin0)
  have Z22 : n0 ≤ h18.size := Nat.le_trans Z7 K18.1
  have KP23 : Keep h0 h18 [] := KP8.trans K18 (allS (Or.inr sz_b5) all0)
  obtain ⟨fs, hr, hrun, hended, hW, hsame⟩ := X18.leave (v := some (.ref b5)) (fun h => by rw [Bd.returns] at h; cases h)
  have KF := K20
  rw [hG] at KF
  refine ⟨_, _, KF _ ?_, hrun, hended, _, _, rfl, ?_, ⟨_, rfl⟩, hW, hsame.mono (by decide) (by decide)⟩
  · show Steps p.tables e below (T18.setTop (mkF m 31 #[.val (.ref a1), .val (.int p2), .val (.ref b5)] [])) _
    refine XS.aloadN X18.here hx rfl (hb hby d10_31) rfl rfl ?_
    show Steps p.tables e below (T18.setTop (mkF m 32 #[.val (.ref a1), .val (.int p2), .val (.ref b5)] [(.ref b5)])) _
    exact own_retA X18 hx Bd.returns rfl rfl rfl (hb hby d10_32) hr
  · show Q10 Z z p2 vs h0 n0 _ T18.heap _
    rw [e18]
    refine ⟨_, _, _, rfl, N18, KP23, sz_b5, V18, fun i hi => ?_⟩
    rw [own_cp _ _ _ _ _ _ (by show 0 + z.toNatClampNeg ≤ 16; omega)]
    rw [if_neg (show ¬ i < (0 : Int32).toNatClampNeg from Nat.not_lt_zero i), if_pos (show i < (0 : Int32).toNatClampNeg + z.toNatClampNeg by show i < 0 + z.toNatClampNeg; omega)]
    show vs.getD (0 + (i - 0)) _ = _; rw [Nat.zero_add, Nat.sub_zero]
def Q8 (Z : State) (a1 b2 : Addr) (p1 z mL : Int32) (vs : List Value) (h0 : Heap) (n0 : Nat) (v : Option Value) (h : Heap) (L : List Loc) : Prop := ∃ (b : Addr) (k : ClassId) (z' : Int32) (vs' : List Value), v = none ∧ Fr n0 L ∧ Keep h0 h [a1] ∧ (b = b2 ∨ h0.size ≤ b) ∧ Exa Z h a1 "org/arborlog/pattern/LineText" ∧ Fld Z h a1 "org/arborlog/pattern/LineText" "chars" "[C" (.ref b) ∧ Fld Z h a1 "org/arborlog/pattern/LineText" "length" "I" (.int mL) ∧ Arv Z h b k .char z' vs' (Value.int (0 : Int32)) ∧ (¬ z' < p1 ∧ z'.toInt ≤ 10) ∧ ∀ i : Nat, i < z.toNatClampNeg → vs'.getD i (Value.int (0 : Int32)) = vs.getD i (Value.int (0 : Int32))
theorem own_grow {z p nl : Int32} (hz0 : ¬ z < 0) (hp : ¬ p < 0 ∧ p.toInt ≤ 6) (h : z < p) (e : nl = if p < (2 : Int32) * z then (2 : Int32) * z else p) : z < nl ∧ ¬ nl < 0 ∧ nl.toNatClampNeg ≤ 10 ∧ ¬ nl < p ∧ nl.toInt ≤ 10 := by
  have z0 : (0 : Int32).toInt = 0 := rfl
  have z2 : (2 : Int32).toInt = 2 := rfl
  have m := c_imul 2 z
  have r := rng32 ((2 : Int32) * z)
  rw [z2] at m
  simp only [Int32.lt_iff_toInt_lt, Int32.toNatClampNeg] at *
  have mm : ((2 : Int32) * z).toInt = 2 * z.toInt := by omega
  by_cases q : p.toInt < ((2 : Int32) * z).toInt
  · rw [if_pos q] at e; subst e; omega
  · rw [if_neg q] at e; subst e; omega
theorem d8_0 : decode prog_20_method_14_code 0 = .ok (.iload_n 1, 1) := by decide +kernel
theorem d8_1 : decode prog_20_method_14_code 1 = .ok (.ifCond .ge 13, 3) := by decide +kernel
theorem d8_4 : decode prog_20_method_14_code 4 = .ok (.new 58, 3) := by decide +kernel
theorem d8_7 : decode prog_20_method_14_code 7 = .ok (.dup, 1) := by decide +kernel
theorem d8_8 : decode prog_20_method_14_code 8 = .ok (.ldc 60, 2) := by decide +kernel
theorem d8_10 : decode prog_20_method_14_code 10 = .ok (.invokespecial 62, 3) := by decide +kernel
theorem d8_13 : decode prog_20_method_14_code 13 = .ok (.athrow, 1) := by decide +kernel
theorem d8_14 : decode prog_20_method_14_code 14 = .ok (.iload_n 1, 1) := by decide +kernel
theorem d8_15 : decode prog_20_method_14_code 15 = .ok (.aload_n 0, 1) := by decide +kernel
theorem d8_16 : decode prog_20_method_14_code 16 = .ok (.getfield 7, 3) := by decide +kernel
theorem d8_19 : decode prog_20_method_14_code 19 = .ok (.arraylength, 1) := by decide +kernel
theorem d8_20 : decode prog_20_method_14_code 20 = .ok (.if_icmp .le 25, 3) := by decide +kernel
theorem d8_23 : decode prog_20_method_14_code 23 = .ok (.aload_n 0, 1) := by decide +kernel
theorem d8_24 : decode prog_20_method_14_code 24 = .ok (.aload_n 0, 1) := by decide +kernel
theorem d8_25 : decode prog_20_method_14_code 25 = .ok (.getfield 7, 3) := by decide +kernel
theorem d8_28 : decode prog_20_method_14_code 28 = .ok (.iload_n 1, 1) := by decide +kernel
theorem d8_29 : decode prog_20_method_14_code 29 = .ok (.iconst 2, 1) := by decide +kernel
theorem d8_30 : decode prog_20_method_14_code 30 = .ok (.aload_n 0, 1) := by decide +kernel
theorem d8_31 : decode prog_20_method_14_code 31 = .ok (.getfield 7, 3) := by decide +kernel
theorem d8_34 : decode prog_20_method_14_code 34 = .ok (.arraylength, 1) := by decide +kernel
theorem d8_35 : decode prog_20_method_14_code 35 = .ok (.imul, 1) := by decide +kernel
theorem d8_36 : decode prog_20_method_14_code 36 = .ok (.invokestatic 65, 3) := by decide +kernel
theorem d8_39 : decode prog_20_method_14_code 39 = .ok (.invokestatic 71, 3) := by decide +kernel
theorem d8_42 : decode prog_20_method_14_code 42 = .ok (.putfield 7, 3) := by decide +kernel
theorem d8_45 : decode prog_20_method_14_code 45 = .ok (.return_, 1) := by decide +kernel
theorem pd_1 : parseMethodDescriptor "([CI)[C" = some ⟨[(.array .char), .int], some (.array .char)⟩ := by decide +kernel
theorem ef_rm8 (m : MethodId) (x0 : Addr) (x1 : Int32) : entryFrame m #[(.ref x0), (.int x1)] 2 = mkF m 0 #[.val (.ref x0), .val (.int x1)] [] := by first | (simp [entryFrame, mkF, argsToLocals, Value.category]; done) | rfl
set_option maxRecDepth 65536 in
set_option maxHeartbeats 40000000 in
theorem rm8 (l : Launch) (Z : State) (a0 : Array Value) (hw : ∀ d ∈ tables_1, d.before a0 Z = true) (ws : List Jvm.Cond) (a1 : Addr) (p1 : Int32) (b2 : Addr) (k : ClassId) (z mL : Int32) (vs : List Value) (h0 : Heap) (n0 : Nat) (Z0 : n0 ≤ h0.size) (E1 : Exa Z h0 a1 "org/arborlog/pattern/LineText") (F1 : Fld Z h0 a1 "org/arborlog/pattern/LineText" "chars" "[C" (.ref b2)) (F2 : Fld Z h0 a1 "org/arborlog/pattern/LineText" "length" "I" (.int mL)) (V2 : Arv Z h0 b2 k .char z vs (Value.int (0 : Int32))) (ne12 : a1 ≠ b2) (g1 : n0 ≤ a1) (hp : ¬ p1 < 0 ∧ p1.toInt ≤ 6) (hz0 : ¬ z < 0) (hz8 : z.toInt ≤ 10) :
    MetFree l (⟨"org/arborlog/pattern/LineText", "ensureCapacity", "(I)V"⟩ : MethodName) (head1 (Jvm.Cond.code (⟨"org/arborlog/pattern/LineText", "ensureCapacity", "(I)V"⟩ : MethodName) prog_20_method_14_code 2 none :: ws) ({ frames := 2, cells := 1, slots := 10, locals := 33 } : Room)) (fun a U => a = #[(.ref a1), (.int p1)] ∧ Z.Warmed39 U.vm ∧ U.heap = h0) (fun _ _ _ _ _ => True) (fun _ U o U' => ∃ v L, o = .returned v ∧ Q8 Z a1 b2 p1 z mL vs h0 n0 v U'.heap L ∧ FrameEnd U o U' L ({ frames := 2, cells := 1, slots := 10, locals := 33 } : Room).cells ({ frames := 2, cells := 1, slots := 10, locals := 33 } : Room).slots) := by
  refine MetFree.of_bodySF (plainFor_of_name pn_org_arborlog_pattern_LineText) hisR ?_
  intro p e s m args below meth c s₁ Bd hml0 hP hK
  obtain ⟨rfl, hZ, hh⟩ := hP
  have hx := Bd.exec
  have hby := Bd.bytes
  have hml : c.maxLocals = 2 := hml0
  have hown : s.vm.findClass "org/arborlog/pattern/LineText" = some m.cls := findClass_of_methodNamed Bd.named
  have hnm := (name_of_methodNamed Bd.named Bd.method).1
  have X0 : Stand p l e ({ frames := 2, cells := 1, slots := 10, locals := 33 } : Room) s m #[(.ref a1), (.int p1)] below meth c s₁ [] 0 0 := Stand.of_body Bd
  have e0 : s₁.heap = h0 := by rw [← hh, Bd.state]; rfl
  have N0 := Fr.nil n0
  have KP0 : Keep h0 h0 [a1] := Keep.refl h0 _
  obtain ⟨G, hG⟩ : ∃ G : State, G = s₁.setTop (entryFrame m #[(.ref a1), (.int p1)] 2) := ⟨_, rfl⟩
  have pre0 : ∀ t, Steps p.tables e below (s₁.setTop (mkF m 0 #[.val (.ref a1), .val (.int p1)] [])) t → Steps p.tables e below G t := fun t k => hG ▸ castTop (ef_rm8 m a1 p1) k
  have K1 : ∀ t, Steps p.tables e below (s₁.setTop (mkF m 16 #[.val (.ref a1), .val (.int p1)] [(.ref a1), (.int p1)])) t → Steps p.tables e below G t := by
    intro t k
    refine pre0 t ?_
    show Steps p.tables e below (s₁.setTop (mkF m 0 #[.val (.ref a1), .val (.int p1)] [])) _
    refine XS.iloadN X0.here hx rfl (hb hby d8_0) rfl ?_
    show Steps p.tables e below (s₁.setTop (mkF m 1 #[.val (.ref a1), .val (.int p1)] [(.int p1)])) _
    refine XS.ifYes X0.here hx rfl (pc0 := 1) (pc' := 14) rfl (hb hby d8_1) rfl ((if0 _ _).trans (flt hp.1).2.1) (by decide) (by decide) ?_
    show Steps p.tables e below (s₁.setTop (mkF m 14 #[.val (.ref a1), .val (.int p1)] [])) _
    refine XS.iloadN X0.here hx rfl (hb hby d8_14) rfl ?_
    show Steps p.tables e below (s₁.setTop (mkF m 15 #[.val (.ref a1), .val (.int p1)] [(.int p1)])) _
    refine XS.aloadN X0.here hx rfl (hb hby d8_15) rfl rfl ?_
    show Steps p.tables e below (s₁.setTop (mkF m 16 #[.val (.ref a1), .val (.int p1)] [(.ref a1), (.int p1)])) _
    exact k
  obtain ⟨T2, X2, e2, st2⟩ := getF X0 hx hZ hown (host := "") (Or.inl (hw _ (List.mem_of_getElem? (i := 11) rfl))) Via.refl e0 F1 (g := (mkF m 16 #[.val (.ref a1), .val (.int p1)] [(.ref a1), (.int p1)])) rfl rfl (hb hby d8_16)
  have K3 : ∀ t, Steps p.tables e below (T2.setTop (mkF m 19 #[.val (.ref a1), .val (.int p1)] [(.ref b2), (.int p1)])) t → Steps p.tables e below G t := fun t k => K1 t (st2 t k)
  obtain ⟨cl4, Ar4, -, S4, M4, -, -⟩ := id V2
  have K5 : ∀ t, Steps p.tables e below (T2.setTop (mkF m 20 #[.val (.ref a1), .val (.int p1)] [(.int z), (.int p1)])) t → Steps p.tables e below G t := by
    intro t k
    refine K3 t ?_
    refine X2.arraylength hx (by rw [e2]; exact Ar4.1) (State.isArrayOf_alike hZ.alike Ar4.2.1) (g := (mkF m 19 #[.val (.ref a1), .val (.int p1)] [(.ref b2), (.int p1)])) rfl rfl (hb hby d8_19) _ ?_
    rw [len_of S4 M4]
    exact k
  by_cases hc6 : z < p1
  · have K7 : ∀ t, Steps p.tables e below (T2.setTop (mkF m 25 #[.val (.ref a1), .val (.int p1)] [(.ref a1), (.ref a1)])) t → Steps p.tables e below G t := by
      intro t k
      refine K5 t ?_
      show Steps p.tables e below (T2.setTop (mkF m 20 #[.val (.ref a1), .val (.int p1)] [(.int z), (.int p1)])) _
      refine XS.icmpNo X2.here hx rfl (hb hby d8_20) rfl (tlt hc6).2.2.2 ?_
      show Steps p.tables e below (T2.setTop (mkF m 23 #[.val (.ref a1), .val (.int p1)] [])) _
      refine XS.aloadN X2.here hx rfl (hb hby d8_23) rfl rfl ?_
      show Steps p.tables e below (T2.setTop (mkF m 24 #[.val (.ref a1), .val (.int p1)] [(.ref a1)])) _
      refine XS.aloadN X2.here hx rfl (hb hby d8_24) rfl rfl ?_
      show Steps p.tables e below (T2.setTop (mkF m 25 #[.val (.ref a1), .val (.int p1)] [(.ref a1), (.ref a1)])) _
      exact k
    obtain ⟨T8, X8, e8, st8⟩ := getF X2 hx hZ hown (host := "") (Or.inl (hw _ (List.mem_of_getElem? (i := 11) rfl))) Via.refl e2 F1 (g := (mkF m 25 #[.val (.ref a1), .val (.int p1)] [(.ref a1), (.ref a1)])) rfl rfl (hb hby d8_25)
    have K9 : ∀ t, Steps p.tables e below (T8.setTop (mkF m 28 #[.val (.ref a1), .val (.int p1)] [(.ref b2), (.ref a1)])) t → Steps p.tables e below G t := fun t k => K7 t (st8 t k)
    have K10 : ∀ t, Steps p.tables e below (T8.setTop (mkF m 31 #[.val (.ref a1), .val (.int p1)] [(.ref a1), (.int (2 : Int32)), (.int p1), (.ref b2), (.ref a1)])) t → Steps p.tables e below G t := by
      intro t k
      refine K9 t ?_
      show Steps p.tables e below (T8.setTop (mkF m 28 #[.val (.ref a1), .val (.int p1)] [(.ref b2), (.ref a1)])) _
      refine XS.iloadN X8.here hx rfl (hb hby d8_28) rfl ?_
      show Steps p.tables e below (T8.setTop (mkF m 29 #[.val (.ref a1), .val (.int p1)] [(.int p1), (.ref b2), (.ref a1)])) _
      refine XS.iconst X8.here hx rfl (hb hby d8_29) ?_
      show Steps p.tables e below (T8.setTop (mkF m 30 #[.val (.ref a1), .val (.int p1)] [(.int (2 : Int32)), (.int p1), (.ref b2), (.ref a1)])) _
      refine XS.aloadN X8.here hx rfl (hb hby d8_30) rfl rfl ?_
      show Steps p.tables e below (T8.setTop (mkF m 31 #[.val (.ref a1), .val (.int p1)] [(.ref a1), (.int (2 : Int32)), (.int p1), (.ref b2), (.ref a1)])) _
      exact k
    obtain ⟨T11, X11, e11, st11⟩ := getF X8 hx hZ hown (host := "") (Or.inl (hw _ (List.mem_of_getElem? (i := 11) rfl))) Via.refl e8 F1 (g := (mkF m 31 #[.val (.ref a1), .val (.int p1)] [(.ref a1), (.int (2 : Int32)), (.int p1), (.ref b2), (.ref a1)])) rfl rfl (hb hby d8_31)
    have K12 : ∀ t, Steps p.tables e below (T11.setTop (mkF m 34 #[.val (.ref a1), .val (.int p1)] [(.ref b2), (.int (2 : Int32)), (.int p1), (.ref b2), (.ref a1)])) t → Steps p.tables e below G t := fun t k => K10 t (st11 t k)
    obtain ⟨cl13, Ar13, -, S13, M13, -, -⟩ := id V2
    have K14 : ∀ t, Steps p.tables e below (T11.setTop (mkF m 35 #[.val (.ref a1), .val (.int p1)] [(.int z), (.int (2 : Int32)), (.int p1), (.ref b2), (.ref a1)])) t → Steps p.tables e below G t := by
      intro t k
      refine K12 t ?_
      refine X11.arraylength hx (by rw [e11]; exact Ar13.1) (State.isArrayOf_alike hZ.alike Ar13.2.1) (g := (mkF m 34 #[.val (.ref a1), .val (.int p1)] [(.ref b2), (.int (2 : Int32)), (.int p1), (.ref b2), (.ref a1)])) rfl rfl (hb hby d8_34) _ ?_
      rw [len_of S13 M13]
      exact k
    have K15 : ∀ t, Steps p.tables e below (T11.setTop (mkF m 36 #[.val (.ref a1), .val (.int p1)] [(.int ((2 : Int32) * z)), (.int p1), (.ref b2), (.ref a1)])) t → Steps p.tables e below G t := by
      intro t k
      refine K14 t ?_
      show Steps p.tables e below (T11.setTop (mkF m 35 #[.val (.ref a1), .val (.int p1)] [(.int z), (.int (2 : Int32)), (.int p1), (.ref b2), (.ref a1)])) _
      refine XS.imul X11.here hx rfl (hb hby d8_35) rfl ?_
      show Steps p.tables e below (T11.setTop (mkF m 36 #[.val (.ref a1), .val (.int p1)] [(.int ((2 : Int32) * z)), (.int p1), (.ref b2), (.ref a1)])) _
      exact k
    obtain ⟨_, _, ⟨T16, L16, kk16, nn16⟩, -, X16, ⟨Lc16, hQ16, lq16, yq16, zq16⟩, st16⟩ := Jvm.LawKit.callS X11 hx (y := (⟨"java/lang/Math", "max", "(II)I"⟩ : MethodName)) hown (mvT hZ (hw _ (List.mem_of_getElem? (i := 47) rfl))) (mvT hZ (hw _ (List.mem_of_getElem? (i := 48) rfl))) (mvT hZ (hw _ (List.mem_of_getElem? (i := 49) rfl))) (mvT hZ (hw _ (List.mem_of_getElem? (i := 50) rfl))) (by decide) (backOf (W := 2) (rm9 l Z a0 hw [] p1 ((2 : Int32) * z) h0 n0 Z0 ) hZ (hw _ (List.mem_of_getElem? (i := 50) rfl)) (hw _ (List.mem_of_getElem? (i := 49) rfl)) (by decide) (by decide)) (g := (mkF m 36 #[.val (.ref a1), .val (.int p1)] [(.int ((2 : Int32) * z)), (.int p1), (.ref b2), (.ref a1)])) rfl (by rw [hml]; rfl) (argsL := [(.int p1), (.int ((2 : Int32) * z))]) (rest := [(.ref b2), (.ref a1)]) (lenOf pd_0 rfl) rfl (by show 2 * 0 + _ ≤ _; exact Nat.le_of_eq rfl) (hb hby d8_36) (fun _ _ => ⟨rfl, e11, (by decide : 0 + 0 ≤ _), (by decide : 0 + 0 ≤ _)⟩)
    dsimp only [Pt.U, Pt.locs, Pt.cells, Pt.slots] at X16 lq16 yq16 zq16 st16 hQ16
    subst lq16 yq16 zq16
    obtain ⟨rfl, Nq16, e16⟩ := hQ16
    have N17 := Fr.app N0 Nq16
    have K18 : ∀ t, Steps p.tables e below (T16.setTop (mkF m 39 #[.val (.ref a1), .val (.int p1)] [(.int (if p1 < ((2 : Int32) * z) then ((2 : Int32) * z) else p1)), (.ref b2), (.ref a1)])) t → Steps p.tables e below G t := fun t k => K15 t (st16 _ k)
    obtain ⟨nl, h_nl⟩ : ∃ z_ : Int32, z_ = (if p1 < ((2 : Int32) * z) then ((2 : Int32) * z) else p1) := ⟨_, rfl⟩
    have K19 : ∀ t, Steps p.tables e below (T16.setTop (mkF m 39 #[.val (.ref a1), .val (.int p1)] [(.int nl), (.ref b2), (.ref a1)])) t → Steps p.tables e below G t := by rw [h_nl]; exact K18
    have hnl := own_grow hz0 hp hc6 h_nl
    obtain ⟨_, _, ⟨T20, L20, kk20, nn20⟩, -, X20, ⟨Lc20, hQ20, lq20, yq20, zq20⟩, st20⟩ := Jvm.LawKit.callS X16 hx (y := (⟨"java/util/Arrays", "copyOf", "([CI)[C"⟩ : MethodName)) hown (mvT hZ (hw _ (List.mem_of_getElem? (i := 51) rfl))) (mvT hZ (hw _ (List.mem_of_getElem? (i := 52) rfl))) (mvT hZ (hw _ (List.mem_of_getElem? (i := 53) rfl))) (mvT hZ (hw _ (List.mem_of_getElem? (i := 54) rfl))) (by decide) (backOf (W := 1) (rm10 l Z a0 hw [] b2 nl k z vs h0 n0 Z0 V2 hnl.1 hz0 hnl.2.1 hnl.2.2.1) hZ (hw _ (List.mem_of_getElem? (i := 54) rfl)) (hw _ (List.mem_of_getElem? (i := 53) rfl)) (by decide) (by decide)) (g := (mkF m 39 #[.val (.ref a1), .val (.int p1)] [(.int nl), (.ref b2), (.ref a1)])) rfl (by rw [hml]; rfl) (argsL := [(.ref b2), (.int nl)]) (rest := [(.ref a1)]) (lenOf pd_1 rfl) rfl (by show 2 * 0 + _ ≤ _; exact Nat.le_of_eq rfl) (hb hby d8_39) (fun _ _ => ⟨rfl, e16, (by decide : 0 + 1 ≤ _), (by decide : 0 + 10 ≤ _)⟩)
    dsimp only [Pt.U, Pt.locs, Pt.cells, Pt.slots] at X20 lq20 yq20 zq20 st20 hQ20
    subst lq20 yq20 zq20
    obtain ⟨b20, kb20, vs20, rfl, Nq20, K20, sz20, Vb20, hc20⟩ := hQ20
    have N21 := Fr.app N17 Nq20
    have ne_a1_b20 : a1 ≠ b20 := Nat.ne_of_lt (Nat.lt_of_lt_of_le E1.lt sz20)
    have ne_b2_b20 : b2 ≠ b20 := Nat.ne_of_lt (Nat.lt_of_lt_of_le V2.lt sz20)
    have g_b20 : n0 ≤ b20 := Nat.le_trans Z0 sz20
    have sz_b20 : h0.size ≤ b20 := Nat.le_trans KP0.1 sz20
    have f22 := E1.keep K20
    have f23 := F1.keep K20 nin0
    have f24 := F2.keep K20 nin0
    have f25 := V2.keep K20 nin0
    have Z26 : n0 ≤ T20.heap.size := Nat.le_trans Z0 K20.1
    have KP27 : Keep h0 T20.heap [a1] := KP0.trans K20 all0
    have K28 : ∀ t, Steps p.tables e below (T20.setTop (mkF m 42 #[.val (.ref a1), .val (.int p1)] [(.ref b20), (.ref a1)])) t → Steps p.tables e below G t := fun t k => K19 t (st20 _ k)
    obtain ⟨T29, h29, X29, e29, W29, st29⟩ := putF X20 hx hZ hown (host := "") (Or.inl (hw _ (List.mem_of_getElem? (i := 11) rfl))) Via.refl rfl f23 f22 (Or.inl (hw _ (List.mem_of_getElem? (i := 12) rfl))) (hw _ (List.mem_of_getElem? (i := 3) rfl)) (ty := (.array .char)) (by decide) rfl rfl (g := (mkF m 42 #[.val (.ref a1), .val (.int p1)] [(.ref b20), (.ref a1)])) rfl rfl (hb hby d8_42)
    have K30 : ∀ t, Steps p.tables e below (T29.setTop (mkF m 45 #[.val (.ref a1), .val (.int p1)] [])) t → Steps p.tables e below G t := fun t k => K28 t (st29 t k)
    have f31 := f22.wr W29
    have f32 := f23.same W29
    have f33 := f24.other W29 (Or.inr (slot_ne (Or.inl (hw _ (List.mem_of_getElem? (i := 19) rfl))) (Or.inl (hw _ (List.mem_of_getElem? (i := 12) rfl))) (by decide) (t := .int) (t' := (.array .char)) (by decide) (by decide)))
    have f34 := f25.other W29 (Ne.symm ne12)
    have f35 := Vb20.other W29 (Ne.symm ne_a1_b20)
    have Z36 : n0 ≤ h29.size := Nat.le_trans Z26 (Keep.of_wr W29).1
    have KP37 : Keep h0 h29 [a1] := KP27.wr W29 (Or.inl (List.mem_of_getElem? (i := 0) rfl))
    have N38 := Fr.snoc X29 N21 g1
    obtain ⟨fs, hr, hrun, hended, hW, hsame⟩ := X29.leave (v := none) (fun _ => rfl)
    have KF := K30
    rw [hG] at KF
    refine ⟨_, _, KF _ ?_, hrun, hended, _, _, rfl, ?_, ⟨_, rfl⟩, hW, hsame.mono (by decide) (by decide)⟩
    · show Steps p.tables e below (T29.setTop (mkF m 45 #[.val (.ref a1), .val (.int p1)] [])) _
      exact X29.returnOut hx Bd.returns (hb hby d8_45) hr
    · show Q8 Z a1 b2 p1 z mL vs h0 n0 _ T29.heap _
      rw [e29]
      exact ⟨_, _, _, _, rfl, N38, KP37, Or.inr sz20, f31, f32, f33, f35, ⟨hnl.2.2.2.1, hnl.2.2.2.2⟩, hc20⟩
  · obtain ⟨fs, hr, hrun, hended, hW, hsame⟩ := X2.leave (v := none) (fun _ => rfl)
    have KF := K5
    rw [hG] at KF
    refine ⟨_, _, KF _ ?_, hrun, hended, _, _, rfl, ?_, ⟨_, rfl⟩, hW, hsame.mono (by decide) (by decide)⟩
    · show Steps p.tables e below (T2.setTop (mkF m 20 #[.val (.ref a1), .val (.int p1)] [(.int z), (.int p1)])) _
      refine XS.icmpYes X2.here hx rfl (pc0 := 20) (pc' := 45) rfl (hb hby d8_20) rfl (flt hc6).2.2.2 (by decide) (by decide) ?_
      show Steps p.tables e below (T2.setTop (mkF m 45 #[.val (.ref a1), .val (.int p1)] [])) _
      exact X2.returnOut hx Bd.returns (hb hby d8_45) hr
    · show Q8 Z a1 b2 p1 z mL vs h0 n0 _ T2.heap _
      rw [e2]
      exact ⟨b2, k, z, vs, rfl, N0, KP0, Or.inl rfl, E1, F1, F2, V2, ⟨hc6, hz8⟩, fun _ _ => rfl⟩
def Q7 (Z : State) (a1 b2 : Addr) (p1 z mL : Int32) (vs : List Value) (h0 : Heap) (n0 : Nat) (v : Option Value) (h : Heap) (L : List Loc) : Prop := ∃ (b : Addr) (k : ClassId) (z' : Int32) (vs' : List Value), v = some (.ref a1) ∧ Fr n0 L ∧ Keep h0 h [a1, b2] ∧ (b = b2 ∨ h0.size ≤ b) ∧ Exa Z h a1 "org/arborlog/pattern/LineText" ∧ Fld Z h a1 "org/arborlog/pattern/LineText" "chars" "[C" (.ref b) ∧ Fld Z h a1 "org/arborlog/pattern/LineText" "length" "I" (.int (mL + (1 : Int32))) ∧ Arv Z h b k .char z' vs' (Value.int (0 : Int32)) ∧ (¬ z' < mL + (1 : Int32) ∧ z'.toInt ≤ 10) ∧ (∀ i : Nat, i < mL.toNatClampNeg → vs'.getD i (Value.int (0 : Int32)) = vs.getD i (Value.int (0 : Int32))) ∧ vs'.getD mL.toNatClampNeg (Value.int (0 : Int32)) = .int (nar .char p1)
theorem own_apl {z m : Int32} (hm : ¬ m < 0 ∧ m.toInt ≤ 4) (hz : ¬ z < m) : (¬ (m + (1 : Int32)) < 0 ∧ (m + (1 : Int32)).toInt ≤ 6) ∧ ¬ z < 0 ∧ (m + (1 : Int32)).toInt = m.toInt + 1 := by
  have z0 : (0 : Int32).toInt = 0 := rfl
  have z1 : (1 : Int32).toInt = 1 := rfl
  have a := c_iadd m 1; have r := rng32 (m + 1)
  simp only [Int32.lt_iff_toInt_lt] at *
  omega
theorem own_apm {z m : Int32} (hm : ¬ m < 0 ∧ m.toInt ≤ 4) (hz : ¬ z < m) {i : Nat} (hi : i < m.toNatClampNeg) : i < z.toNatClampNeg := by
  have z0 : (0 : Int32).toInt = 0 := rfl
  simp only [Int32.lt_iff_toInt_lt, Int32.toNatClampNeg] at *
  omega
theorem own_apb {z m : Int32} (hm : ¬ m < 0 ∧ m.toInt ≤ 4) (hz : ¬ z < m + (1 : Int32)) (hz8 : z.toInt ≤ 10) : (¬ m < 0 ∧ m < z) ∧ m.toNatClampNeg < 16 := by
  have z0 : (0 : Int32).toInt = 0 := rfl
  have z1 : (1 : Int32).toInt = 1 := rfl
  have a := c_iadd m 1; have r := rng32 (m + 1)
  simp only [Int32.lt_iff_toInt_lt, Int32.toNatClampNeg] at *
  omega
theorem d7_0 : decode prog_20_method_7_code 0 = .ok (.aload_n 0, 1) := by decide +kernel
theorem d7_1 : decode prog_20_method_7_code 1 = .ok (.aload_n 0, 1) := by decide +kernel
theorem d7_2 : decode prog_20_method_7_code 2 = .ok (.getfield 13, 3) := by decide +kernel
theorem d7_5 : decode prog_20_method_7_code 5 = .ok (.iconst 1, 1) := by decide +kernel
theorem d7_6 : decode prog_20_method_7_code 6 = .ok (.iadd, 1) := by decide +kernel
theorem d7_7 : decode prog_20_method_7_code 7 = .ok (.invokevirtual 24, 3) := by decide +kernel
theorem d7_10 : decode prog_20_method_7_code 10 = .ok (.aload_n 0, 1) := by decide +kernel
theorem d7_11 : decode prog_20_method_7_code 11 = .ok (.getfield 7, 3) := by decide +kernel
theorem d7_14 : decode prog_20_method_7_code 14 = .ok (.aload_n 0, 1) := by decide +kernel
theorem d7_15 : decode prog_20_method_7_code 15 = .ok (.dup, 1) := by decide +kernel
theorem d7_16 : decode prog_20_method_7_code 16 = .ok (.getfield 13, 3) := by decide +kernel
theorem d7_19 : decode prog_20_method_7_code 19 = .ok (.dup_x1, 1) := by decide +kernel
theorem d7_20 : decode prog_20_method_7_code 20 = .ok (.iconst 1, 1) := by decide +kernel
theorem d7_21 : decode prog_20_method_7_code 21 = .ok (.iadd, 1) := by decide +kernel
theorem d7_22 : decode prog_20_method_7_code 22 = .ok (.putfield 13, 3) := by decide +kernel
theorem d7_25 : decode prog_20_method_7_code 25 = .ok (.iload_n 1, 1) := by decide +kernel
theorem d7_26 : decode prog_20_method_7_code 26 = .ok (.castore, 1) := by decide +kernel
theorem d7_27 : decode prog_20_method_7_code 27 = .ok (.aload_n 0, 1) := by decide +kernel
theorem d7_28 : decode prog_20_method_7_code 28 = .ok (.areturn, 1) := by decide +kernel
theorem pd_2 : parseMethodDescriptor "(I)V" = some ⟨[.int], none⟩ := by decide +kernel
theorem ef_rm7 (m : MethodId) (x0 : Addr) (x1 : Int32) : entryFrame m #[(.ref x0), (.int x1)] 2 = mkF m 0 #[.val (.ref x0), .val (.int x1)] [] := by first | (simp [entryFrame, mkF, argsToLocals, Value.category]; done) | rfl
set_option maxRecDepth 65536 in
set_option maxHeartbeats 40000000 in
theorem rm7 (l : Launch) (Z : State) (a0 : Array Value) (hw : ∀ d ∈ tables_1, d.before a0 Z = true) (ws : List Jvm.Cond) (a1 : Addr) (p1 : Int32) (b2 : Addr) (k : ClassId) (z mL : Int32) (vs : List Value) (h0 : Heap) (n0 : Nat) (Z0 : n0 ≤ h0.size) (E1 : Exa Z h0 a1 "org/arborlog/pattern/LineText") (F1 : Fld Z h0 a1 "org/arborlog/pattern/LineText" "chars" "[C" (.ref b2)) (F2 : Fld Z h0 a1 "org/arborlog/pattern/LineText" "length" "I" (.int mL)) (V2 : Arv Z h0 b2 k .char z vs (Value.int (0 : Int32))) (ne12 : a1 ≠ b2) (g1 : n0 ≤ a1) (g2 : n0 ≤ b2) (hm : ¬ mL < 0 ∧ mL.toInt ≤ 4) (hzm : ¬ z < mL) (hz8 : z.toInt ≤ 10) :
    MetFree l (⟨"org/arborlog/pattern/LineText", "append", "(C)Lorg/arborlog/pattern/LineText;"⟩ : MethodName) (head1 (Jvm.Cond.code (⟨"org/arborlog/pattern/LineText", "append", "(C)Lorg/arborlog/pattern/LineText;"⟩ : MethodName) prog_20_method_7_code 2 (some (.object "org/arborlog/pattern/LineText")) :: ws) ({ frames := 3, cells := 1, slots := 10, locals := 46 } : Room)) (fun a U => a = #[(.ref a1), (.int p1)] ∧ Z.Warmed39 U.vm ∧ U.heap = h0) (fun _ _ _ _ _ => True) (fun _ U o U' => ∃ v L, o = .returned v ∧ Q7 Z a1 b2 p1 z mL vs h0 n0 v U'.heap L ∧ FrameEnd U o U' L ({ frames := 3, cells := 1, slots := 10, locals := 46 } : Room).cells ({ frames := 3, cells := 1, slots := 10, locals := 46 } : Room).slots) := by
  refine MetFree.of_bodySF (plainFor_of_name pn_org_arborlog_pattern_LineText) hisR ?_
  intro p e s m args below meth c s₁ Bd hml0 hP hK
  obtain ⟨rfl, hZ, hh⟩ := hP
  have hx := Bd.exec
  have hby := Bd.bytes
  have hml : c.maxLocals = 2 := hml0
  have hown : s.vm.findClass "org/arborlog/pattern/LineText" = some m.cls := findClass_of_methodNamed Bd.named
  have hnm := (name_of_methodNamed Bd.named Bd.method).1
  have X0 : Stand p l e ({ frames := 3, cells := 1, slots := 10, locals := 46 } : Room) s m #[(.ref a1), (.int p1)] below meth c s₁ [] 0 0 := Stand.of_body Bd
  have e0 : s₁.heap = h0 := by rw [← hh, Bd.state]; rfl
  have N0 := Fr.nil n0
  have KP0 : Keep h0 h0 [a1, b2] := Keep.refl h0 _
  obtain ⟨G, hG⟩ : ∃ G : State, G = s₁.setTop (entryFrame m #[(.ref a1), (.int p1)] 2) := ⟨_, rfl⟩
  have pre0 : ∀ t, Steps p.tables e below (s₁.setTop (mkF m 0 #[.val (.ref a1), .val (.int p1)] [])) t → Steps p.tables e below G t := fun t k => hG ▸ castTop (ef_rm7 m a1 p1) k
  have hl := own_apl hm hzm
  have K1 : ∀ t, Steps p.tables e below (s₁.setTop (mkF m 2 #[.val (.ref a1), .val (.int p1)] [(.ref a1), (.ref a1)])) t → Steps p.tables e below G t := by
    intro t k
    refine pre0 t ?_
    show Steps p.tables e below (s₁.setTop (mkF m 0 #[.val (.ref a1), .val (.int p1)] [])) _
    refine XS.aloadN X0.here hx rfl (hb hby d7_0) rfl rfl ?_
    show Steps p.tables e below (s₁.setTop (mkF m 1 #[.val (.ref a1), .val (.int p1)] [(.ref a1)])) _
    refine XS.aloadN X0.here hx rfl (hb hby d7_1) rfl rfl ?_
    show Steps p.tables e below (s₁.setTop (mkF m 2 #[.val (.ref a1), .val (.int p1)] [(.ref a1), (.ref a1)])) _
    exact k
  obtain ⟨T2, X2, e2, st2⟩ := getF X0 hx hZ hown (host := "") (Or.inl (hw _ (List.mem_of_getElem? (i := 18) rfl))) Via.refl e0 F2 (g := (mkF m 2 #[.val (.ref a1), .val (.int p1)] [(.ref a1), (.ref a1)])) rfl rfl (hb hby d7_2)
  have K3 : ∀ t, Steps p.tables e below (T2.setTop (mkF m 5 #[.val (.ref a1), .val (.int p1)] [(.int mL), (.ref a1)])) t → Steps p.tables e below G t := fun t k => K1 t (st2 t k)
  have K4 : ∀ t, Steps p.tables e below (T2.setTop (mkF m 7 #[.val (.ref a1), .val (.int p1)] [(.int (mL + (1 : Int32))), (.ref a1)])) t → Steps p.tables e below G t := by
    intro t k
    refine K3 t ?_
    show Steps p.tables e below (T2.setTop (mkF m 5 #[.val (.ref a1), .val (.int p1)] [(.int mL), (.ref a1)])) _
    refine XS.iconst X2.here hx rfl (hb hby d7_5) ?_
    show Steps p.tables e below (T2.setTop (mkF m 6 #[.val (.ref a1), .val (.int p1)] [(.int (1 : Int32)), (.int mL), (.ref a1)])) _
    refine XS.iadd X2.here hx rfl (hb hby d7_6) rfl ?_
    show Steps p.tables e below (T2.setTop (mkF m 7 #[.val (.ref a1), .val (.int p1)] [(.int (mL + (1 : Int32))), (.ref a1)])) _
    exact k
  obtain ⟨cq5, q5, q5'⟩ := E1.cell
  obtain ⟨_, _, ⟨T5, L5, kk5, nn5⟩, -, X5, ⟨Lc5, hQ5, lq5, yq5, zq5⟩, st5⟩ := X2.privateBack hx (y := (⟨"org/arborlog/pattern/LineText", "ensureCapacity", "(I)V"⟩ : MethodName)) hown (mvT hZ (hw _ (List.mem_of_getElem? (i := 43) rfl))) (mvT hZ (hw _ (List.mem_of_getElem? (i := 44) rfl))) (own_selp hZ (hw _ (List.mem_of_getElem? (i := 3) rfl)) (hw _ (List.mem_of_getElem? (i := 45) rfl)) (hw _ (List.mem_of_getElem? (i := 44) rfl)) (by decide)) (Cond.privateMethod_at (mvP hZ (hw _ (List.mem_of_getElem? (i := 45) rfl)) (args := #[]))) (mvT hZ (hw _ (List.mem_of_getElem? (i := 46) rfl))) (by decide) (backOf (W := 0) (rm8 l Z a0 hw [] a1 (mL + (1 : Int32)) b2 k z mL vs h0 n0 Z0 E1 F1 F2 V2 ne12 g1 hl.1 hl.2.1 hz8) hZ (hw _ (List.mem_of_getElem? (i := 46) rfl)) (hw _ (List.mem_of_getElem? (i := 4) rfl)) (by decide) (by decide)) (g := (mkF m 7 #[.val (.ref a1), .val (.int p1)] [(.int (mL + (1 : Int32))), (.ref a1)])) rfl (by rw [hml]; rfl) (Steps.refl _) (a := a1) (by rw [e2]; exact q5) q5' (argsL := [(.int (mL + (1 : Int32)))]) (rest := []) (lenOf pd_2 rfl) rfl (by show 2 * 0 + _ ≤ _; exact Nat.le_of_eq rfl) (hb hby d7_7) (fun _ _ => ⟨rfl, e2, (by decide : 0 + 1 ≤ _), (by decide : 0 + 10 ≤ _)⟩)
  dsimp only [Pt.U, Pt.locs, Pt.cells, Pt.slots] at X5 lq5 yq5 zq5 st5 hQ5
  subst lq5 yq5 zq5
  obtain ⟨b5, kb5, zb5, vs5, rfl, Nq5, K5, ob5, E5', Fc5, Fl5, Vb5, hz5, hc5⟩ := hQ5
  have N6 := Fr.app N0 Nq5
  have gb5 : n0 ≤ b5 := ob5.elim (fun q => q ▸ g2) (fun q => Nat.le_trans Z0 q)
  have ne_a1_b5 : a1 ≠ b5 := ob5.elim (fun q => q ▸ ne12) (fun q => Nat.ne_of_lt (Nat.lt_of_lt_of_le E1.lt q))
  have f7 := E1.keep K5
  have Z8 : n0 ≤ T5.heap.size := Nat.le_trans Z0 K5.1
  have KP9 : Keep h0 T5.heap [a1, b2] := KP0.trans K5 (allS (Or.inl (List.mem_of_getElem? (i := 0) rfl)) all0)
  have K10 : ∀ t, Steps p.tables e below (T5.setTop (mkF m 10 #[.val (.ref a1), .val (.int p1)] [])) t → Steps p.tables e below G t := fun t k => K4 t (st5.trans k)
  have K11 : ∀ t, Steps p.tables e below (T5.setTop (mkF m 11 #[.val (.ref a1), .val (.int p1)] [(.ref a1)])) t → Steps p.tables e below G t := by
    intro t k
    refine K10 t ?_
    show Steps p.tables e below (T5.setTop (mkF m 10 #[.val (.ref a1), .val (.int p1)] [])) _
    refine XS.aloadN X5.here hx rfl (hb hby d7_10) rfl rfl ?_
    show Steps p.tables e below (T5.setTop (mkF m 11 #[.val (.ref a1), .val (.int p1)] [(.ref a1)])) _
    exact k
  obtain ⟨T12, X12, e12, st12⟩ := getF X5 hx hZ hown (host := "") (Or.inl (hw _ (List.mem_of_getElem? (i := 11) rfl))) Via.refl rfl Fc5 (g := (mkF m 11 #[.val (.ref a1), .val (.int p1)] [(.ref a1)])) rfl rfl (hb hby d7_11)
  have K13 : ∀ t, Steps p.tables e below (T12.setTop (mkF m 14 #[.val (.ref a1), .val (.int p1)] [(.ref b5)])) t → Steps p.tables e below G t := fun t k => K11 t (st12 t k)
  have K14 : ∀ t, Steps p.tables e below (T12.setTop (mkF m 16 #[.val (.ref a1), .val (.int p1)] [(.ref a1), (.ref a1), (.ref b5)])) t → Steps p.tables e below G t := by
    intro t k
    refine K13 t ?_
    show Steps p.tables e below (T12.setTop (mkF m 14 #[.val (.ref a1), .val (.int p1)] [(.ref b5)])) _
    refine XS.aloadN X12.here hx rfl (hb hby d7_14) rfl rfl ?_
    show Steps p.tables e below (T12.setTop (mkF m 15 #[.val (.ref a1), .val (.int p1)] [(.ref a1), (.ref b5)])) _
    refine XS.dup X12.here hx rfl (hb hby d7_15) rfl rfl ?_
    show Steps p.tables e below (T12.setTop (mkF m 16 #[.val (.ref a1), .val (.int p1)] [(.ref a1), (.ref a1), (.ref b5)])) _
    exact k
  obtain ⟨T15, X15, e15, st15⟩ := getF X12 hx hZ hown (host := "") (Or.inl (hw _ (List.mem_of_getElem? (i := 18) rfl))) Via.refl e12 Fl5 (g := (mkF m 16 #[.val (.ref a1), .val (.int p1)] [(.ref a1), (.ref a1), (.ref b5)])) rfl rfl (hb hby d7_16)
  have K16 : ∀ t, Steps p.tables e below (T15.setTop (mkF m 19 #[.val (.ref a1), .val (.int p1)] [(.int mL), (.ref a1), (.ref b5)])) t → Steps p.tables e below G t := fun t k => K14 t (st15 t k)
  have K17 : ∀ t, Steps p.tables e below (T15.setTop (mkF m 22 #[.val (.ref a1), .val (.int p1)] [(.int (mL + (1 : Int32))), (.ref a1), (.int mL), (.ref b5)])) t → Steps p.tables e below G t := by
    intro t k
    refine K16 t ?_
    show Steps p.tables e below (T15.setTop (mkF m 19 #[.val (.ref a1), .val (.int p1)] [(.int mL), (.ref a1), (.ref b5)])) _
    refine XS.dupX1 X15.here hx rfl (hb hby d7_19) rfl rfl rfl ?_
    show Steps p.tables e below (T15.setTop (mkF m 20 #[.val (.ref a1), .val (.int p1)] [(.int mL), (.ref a1), (.int mL), (.ref b5)])) _
    refine XS.iconst X15.here hx rfl (hb hby d7_20) ?_
    show Steps p.tables e below (T15.setTop (mkF m 21 #[.val (.ref a1), .val (.int p1)] [(.int (1 : Int32)), (.int mL), (.ref a1), (.int mL), (.ref b5)])) _
    refine XS.iadd X15.here hx rfl (hb hby d7_21) rfl ?_
    show Steps p.tables e below (T15.setTop (mkF m 22 #[.val (.ref a1), .val (.int p1)] [(.int (mL + (1 : Int32))), (.ref a1), (.int mL), (.ref b5)])) _
    exact k
  obtain ⟨T18, h18, X18, e18, W18, st18⟩ := putF X15 hx hZ hown (host := "") (Or.inl (hw _ (List.mem_of_getElem? (i := 18) rfl))) Via.refl e15 Fl5 E5' (Or.inl (hw _ (List.mem_of_getElem? (i := 19) rfl))) (hw _ (List.mem_of_getElem? (i := 3) rfl)) (ty := .int) (by decide) rfl rfl (g := (mkF m 22 #[.val (.ref a1), .val (.int p1)] [(.int (mL + (1 : Int32))), (.ref a1), (.int mL), (.ref b5)])) rfl rfl (hb hby d7_22)
  have K19 : ∀ t, Steps p.tables e below (T18.setTop (mkF m 25 #[.val (.ref a1), .val (.int p1)] [(.int mL), (.ref b5)])) t → Steps p.tables e below G t := fun t k => K17 t (st18 t k)
  have f20 := E5'.wr W18
  have f21 := Fc5.other W18 (Or.inr (slot_ne (Or.inl (hw _ (List.mem_of_getElem? (i := 12) rfl))) (Or.inl (hw _ (List.mem_of_getElem? (i := 19) rfl))) (by decide) (t := (.array .char)) (t' := .int) (by decide) (by decide)))
  have f22 := Fl5.same W18
  have f23 := Vb5.other W18 (Ne.symm ne_a1_b5)
  have Z24 : n0 ≤ h18.size := Nat.le_trans Z8 (Keep.of_wr W18).1
  have KP25 : Keep h0 h18 [a1, b2] := KP9.wr W18 (Or.inl (List.mem_of_getElem? (i := 0) rfl))
  have N26 := Fr.snoc X18 N6 g1
  have K27 : ∀ t, Steps p.tables e below (T18.setTop (mkF m 26 #[.val (.ref a1), .val (.int p1)] [(.int p1), (.int mL), (.ref b5)])) t → Steps p.tables e below G t := by
    intro t k
    refine K19 t ?_
    show Steps p.tables e below (T18.setTop (mkF m 25 #[.val (.ref a1), .val (.int p1)] [(.int mL), (.ref b5)])) _
    refine XS.iloadN X18.here hx rfl (hb hby d7_25) rfl ?_
    show Steps p.tables e below (T18.setTop (mkF m 26 #[.val (.ref a1), .val (.int p1)] [(.int p1), (.int mL), (.ref b5)])) _
    exact k
  have hb28 := own_apb hm hz5.1 hz5.2
  obtain ⟨cl28, Ar28, q28, S28, M28, Ha28, Ga28⟩ := f23.pad (pad_rep vs5 (Value.int (0 : Int32)) 16)
  have hin28 : ¬ (mL < 0 ∨ cl28.slots.size ≤ (mL).toNatClampNeg) := inb_of S28 hb28.1
  obtain ⟨T28, h28, X28, e28, W28, st28⟩ := stC X18 hx hZ e18 Ar28 (j := mL) hin28 (g := (mkF m 26 #[.val (.ref a1), .val (.int p1)] [(.int p1), (.int mL), (.ref b5)])) rfl rfl (hb hby d7_26)
  have V28 : Arv Z h28 b5 kb5 .char zb5 ((vs5 ++ List.replicate 16 (Value.int (0 : Int32))).set mL.toNatClampNeg (.int (nar .char p1))) (Value.int (0 : Int32)) := Arv.set Ar28 q28 S28 M28 Ha28 Ga28 (fits_nar_char _) W28 _ rfl (Nat.lt_of_lt_of_le hb28.2 (own_padl _ _))
  have K29 : ∀ t, Steps p.tables e below (T28.setTop (mkF m 27 #[.val (.ref a1), .val (.int p1)] [])) t → Steps p.tables e below G t := fun t k => K27 t (st28 t k)
  have KP30 : Keep h0 h28 [a1, b2] := KP25.wr W28 (ob5.elim (fun q => Or.inl (q ▸ List.mem_of_getElem? (i := 1) rfl)) Or.inr)
  have f31 := f20.wr W28
  have f32 := f21.other W28 (Or.inl ne_a1_b5)
  have f33 := f22.other W28 (Or.inl ne_a1_b5)
  have Z34 : n0 ≤ h28.size := Nat.le_trans Z24 (Keep.of_wr W28).1
  have KP35 : Keep h0 h28 [a1, b2] := KP25.wr W28 (ob5.elim (fun q => Or.inl (q ▸ List.mem_of_getElem? (i := 1) rfl)) Or.inr)
  have N36 := Fr.snoc X28 N26 gb5
  obtain ⟨fs, hr, hrun, hended, hW, hsame⟩ := X28.leave (v := some (.ref a1)) (fun h => by rw [Bd.returns] at h; cases h)
  have KF := K29
  rw [hG] at KF
  refine ⟨_, _, KF _ ?_, hrun, hended, _, _, rfl, ?_, ⟨_, rfl⟩, hW, hsame.mono (by decide) (by decide)⟩
  · show Steps p.tables e below (T28.setTop (mkF m 27 #[.val (.ref a1), .val (.int p1)] [])) _
    refine XS.aloadN X28.here hx rfl (hb hby d7_27) rfl rfl ?_
    show Steps p.tables e below (T28.setTop (mkF m 28 #[.val (.ref a1), .val (.int p1)] [(.ref a1)])) _
    exact own_retA X28 hx Bd.returns rfl rfl rfl (hb hby d7_28) hr
  · show Q7 Z a1 b2 p1 z mL vs h0 n0 _ T28.heap _
    rw [e28]
    refine ⟨_, _, _, _, rfl, N36, KP30, ob5, f31, f32, f33, V28, hz5, fun i hi => ?_, ?_⟩
    · rw [own_set _ _ _ _ _ (Nat.lt_of_lt_of_le hb28.2 (own_padl _ _)), if_neg (by omega), own_pad]
      exact hc5 i (own_apm hm hzm hi)
    · rw [own_set _ _ _ _ _ (Nat.lt_of_lt_of_le hb28.2 (own_padl _ _)), if_pos rfl]
def Q4 (a1 : Addr) (p1 : Int32) (h0 : Heap) (n0 : Nat) (v : Option Value) (h : Heap) (L : List Loc) : Prop := v = some (.int p1) ∧ Fr n0 L ∧ h = h0
theorem d4_0 : decode prog_20_method_2_code 0 = .ok (.aload_n 0, 1) := by decide +kernel
theorem d4_1 : decode prog_20_method_2_code 1 = .ok (.getfield 13, 3) := by decide +kernel
theorem d4_4 : decode prog_20_method_2_code 4 = .ok (.ireturn, 1) := by decide +kernel
theorem ef_rm4 (m : MethodId) (x0 : Addr) : entryFrame m #[(.ref x0)] 1 = mkF m 0 #[.val (.ref x0)] [] := by first | (simp [entryFrame, mkF, argsToLocals, Value.category]; done) | rfl
set_option maxRecDepth 65536 in
set_option maxHeartbeats 40000000 in
theorem rm4 (l : Launch) (Z : State) (a0 : Array Value) (hw : ∀ d ∈ tables_1, d.before a0 Z = true) (ws : List Jvm.Cond) (a1 : Addr) (p1 : Int32) (h0 : Heap) (n0 : Nat) (Z0 : n0 ≤ h0.size) (F1 : Fld Z h0 a1 "org/arborlog/pattern/LineText" "length" "I" (.int p1)) :
    MetFree l (⟨"org/arborlog/pattern/LineText", "length", "()I"⟩ : MethodName) (head1 (Jvm.Cond.code (⟨"org/arborlog/pattern/LineText", "length", "()I"⟩ : MethodName) prog_20_method_2_code 1 (some .int) :: ws) ({ frames := 0, cells := 0, slots := 0, locals := 0 } : Room)) (fun a U => a = #[(.ref a1)] ∧ Z.Warmed39 U.vm ∧ U.heap = h0) (fun _ _ _ _ _ => True) (fun _ U o U' => ∃ v L, o = .returned v ∧ Q4 a1 p1 h0 n0 v U'.heap L ∧ FrameEnd U o U' L ({ frames := 0, cells := 0, slots := 0, locals := 0 } : Room).cells ({ frames := 0, cells := 0, slots := 0, locals := 0 } : Room).slots) := by
  refine MetFree.of_bodySF (plainFor_of_name pn_org_arborlog_pattern_LineText) hisR ?_
  intro p e s m args below meth c s₁ Bd hml0 hP hK
  obtain ⟨rfl, hZ, hh⟩ := hP
  have hx := Bd.exec
  have hby := Bd.bytes
  have hml : c.maxLocals = 1 := hml0
  have hown : s.vm.findClass "org/arborlog/pattern/LineText" = some m.cls := findClass_of_methodNamed Bd.named
  have hnm := (name_of_methodNamed Bd.named Bd.method).1
  have X0 : Stand p l e ({ frames := 0, cells := 0, slots := 0, locals := 0 } : Room) s m #[(.ref a1)] below meth c s₁ [] 0 0 := Stand.of_body Bd
  have e0 : s₁.heap = h0 := by rw [← hh, Bd.state]; rfl
  have N0 := Fr.nil n0
  have KP0 : Keep h0 h0 [] := Keep.refl h0 _
  obtain ⟨G, hG⟩ : ∃ G : State, G = s₁.setTop (entryFrame m #[(.ref a1)] 1) := ⟨_, rfl⟩
  have pre0 : ∀ t, Steps p.tables e below (s₁.setTop (mkF m 0 #[.val (.ref a1)] [])) t → Steps p.tables e below G t := fun t k => hG ▸ castTop (ef_rm4 m a1) k
  have K1 : ∀ t, Steps p.tables e below (s₁.setTop (mkF m 1 #[.val (.ref a1)] [(.ref a1)])) t → Steps p.tables e below G t := by
    intro t k
    refine pre0 t ?_
    show Steps p.tables e below (s₁.setTop (mkF m 0 #[.val (.ref a1)] [])) _
    refine XS.aloadN X0.here hx rfl (hb hby d4_0) rfl rfl ?_
    show Steps p.tables e below (s₁.setTop (mkF m 1 #[.val (.ref a1)] [(.ref a1)])) _
    exact k
  obtain ⟨T2, X2, e2, st2⟩ := getF X0 hx hZ hown (host := "") (Or.inl (hw _ (List.mem_of_getElem? (i := 18) rfl))) Via.refl e0 F1 (g := (mkF m 1 #[.val (.ref a1)] [(.ref a1)])) rfl rfl (hb hby d4_1)
  have K3 : ∀ t, Steps p.tables e below (T2.setTop (mkF m 4 #[.val (.ref a1)] [(.int p1)])) t → Steps p.tables e below G t := fun t k => K1 t (st2 t k)
  obtain ⟨fs, hr, hrun, hended, hW, hsame⟩ := X2.leave (v := some (.int p1)) (fun h => by rw [Bd.returns] at h; cases h)
  have KF := K3
  rw [hG] at KF
  refine ⟨_, _, KF _ ?_, hrun, hended, _, _, rfl, ?_, ⟨_, rfl⟩, hW, hsame.mono (by decide) (by decide)⟩
  · show Steps p.tables e below (T2.setTop (mkF m 4 #[.val (.ref a1)] [(.int p1)])) _
    exact own_retI X2 hx Bd.returns (hb hby d4_4) hr
  · show Q4 a1 p1 h0 n0 _ T2.heap _
    rw [e2]
    exact ⟨rfl, N0, rfl⟩
def Q5 (a1 b1 : Addr) (h0 : Heap) (n0 : Nat) (v : Option Value) (h : Heap) (L : List Loc) : Prop := v = some (.ref b1) ∧ Fr n0 L ∧ h = h0
theorem d5_0 : decode prog_20_method_4_code 0 = .ok (.aload_n 0, 1) := by decide +kernel
theorem d5_1 : decode prog_20_method_4_code 1 = .ok (.getfield 7, 3) := by decide +kernel
theorem d5_4 : decode prog_20_method_4_code 4 = .ok (.areturn, 1) := by decide +kernel
theorem ef_rm5 (m : MethodId) (x0 : Addr) : entryFrame m #[(.ref x0)] 1 = mkF m 0 #[.val (.ref x0)] [] := by first | (simp [entryFrame, mkF, argsToLocals, Value.category]; done) | rfl
set_option maxRecDepth 65536 in
set_option maxHeartbeats 40000000 in
theorem rm5 (l : Launch) (Z : State) (a0 : Array Value) (hw : ∀ d ∈ tables_1, d.before a0 Z = true) (ws : List Jvm.Cond) (a1 b1 : Addr) (h0 : Heap) (n0 : Nat) (Z0 : n0 ≤ h0.size) (F1 : Fld Z h0 a1 "org/arborlog/pattern/LineText" "chars" "[C" (.ref b1)) :
    MetFree l (⟨"org/arborlog/pattern/LineText", "chars", "()[C"⟩ : MethodName) (head1 (Jvm.Cond.code (⟨"org/arborlog/pattern/LineText", "chars", "()[C"⟩ : MethodName) prog_20_method_4_code 1 (some (.array .char)) :: ws) ({ frames := 0, cells := 0, slots := 0, locals := 0 } : Room)) (fun a U => a = #[(.ref a1)] ∧ Z.Warmed39 U.vm ∧ U.heap = h0) (fun _ _ _ _ _ => True) (fun _ U o U' => ∃ v L, o = .returned v ∧ Q5 a1 b1 h0 n0 v U'.heap L ∧ FrameEnd U o U' L ({ frames := 0, cells := 0, slots := 0, locals := 0 } : Room).cells ({ frames := 0, cells := 0, slots := 0, locals := 0 } : Room).slots) := by
  refine MetFree.of_bodySF (plainFor_of_name pn_org_arborlog_pattern_LineText) hisR ?_
  intro p e s m args below meth c s₁ Bd hml0 hP hK
  obtain ⟨rfl, hZ, hh⟩ := hP
  have hx := Bd.exec
  have hby := Bd.bytes
  have hml : c.maxLocals = 1 := hml0
  have hown : s.vm.findClass "org/arborlog/pattern/LineText" = some m.cls := findClass_of_methodNamed Bd.named
  have hnm := (name_of_methodNamed Bd.named Bd.method).1
  have X0 : Stand p l e ({ frames := 0, cells := 0, slots := 0, locals := 0 } : Room) s m #[(.ref a1)] below meth c s₁ [] 0 0 := Stand.of_body Bd
  have e0 : s₁.heap = h0 := by rw [← hh, Bd.state]; rfl
  have N0 := Fr.nil n0
  have KP0 : Keep h0 h0 [] := Keep.refl h0 _
  obtain ⟨G, hG⟩ : ∃ G : State, G = s₁.setTop (entryFrame m #[(.ref a1)] 1) := ⟨_, rfl⟩
  have pre0 : ∀ t, Steps p.tables e below (s₁.setTop (mkF m 0 #[.val (.ref a1)] [])) t → Steps p.tables e below G t := fun t k => hG ▸ castTop (ef_rm5 m a1) k
  have K1 : ∀ t, Steps p.tables e below (s₁.setTop (mkF m 1 #[.val (.ref a1)] [(.ref a1)])) t → Steps p.tables e below G t := by
    intro t k
    refine pre0 t ?_
    show Steps p.tables e below (s₁.setTop (mkF m 0 #[.val (.ref a1)] [])) _
    refine XS.aloadN X0.here hx rfl (hb hby d5_0) rfl rfl ?_
    show Steps p.tables e below (s₁.setTop (mkF m 1 #[.val (.ref a1)] [(.ref a1)])) _
    exact k
  obtain ⟨T2, X2, e2, st2⟩ := getF X0 hx hZ hown (host := "") (Or.inl (hw _ (List.mem_of_getElem? (i := 11) rfl))) Via.refl e0 F1 (g := (mkF m 1 #[.val (.ref a1)] [(.ref a1)])) rfl rfl (hb hby d5_1)
  have K3 : ∀ t, Steps p.tables e below (T2.setTop (mkF m 4 #[.val (.ref a1)] [(.ref b1)])) t → Steps p.tables e below G t := fun t k => K1 t (st2 t k)
  obtain ⟨fs, hr, hrun, hended, hW, hsame⟩ := X2.leave (v := some (.ref b1)) (fun h => by rw [Bd.returns] at h; cases h)
  have KF := K3
  rw [hG] at KF
  refine ⟨_, _, KF _ ?_, hrun, hended, _, _, rfl, ?_, ⟨_, rfl⟩, hW, hsame.mono (by decide) (by decide)⟩
  · show Steps p.tables e below (T2.setTop (mkF m 4 #[.val (.ref a1)] [(.ref b1)])) _
    exact own_retA X2 hx Bd.returns rfl rfl rfl (hb hby d5_4) hr
  · show Q5 a1 b1 h0 n0 _ T2.heap _
    rw [e2]
    exact ⟨rfl, N0, rfl⟩
theorem own_rng (x : Int32) : (x &&& 2147483647) % 5 = 0 ∨ (x &&& 2147483647) % 5 = 1 ∨ (x &&& 2147483647) % 5 = 2 ∨ (x &&& 2147483647) % 5 = 3 ∨ (x &&& 2147483647) % 5 = 4 := by
  have m := c_mask x 2147483647 31 (by decide) (by decide)
  have r := (c_irem (x &&& 2147483647) 5 5 rfl).1 (by rw [m]; omega)
  have e : ∀ (k : Int32) (n : Int32), k.toInt = n.toInt → k = n := fun k n h => Int32.toInt_inj.mp h
  have q : ((x &&& 2147483647) % 5).toInt = 0 ∨ ((x &&& 2147483647) % 5).toInt = 1 ∨ ((x &&& 2147483647) % 5).toInt = 2 ∨ ((x &&& 2147483647) % 5).toInt = 3 ∨ ((x &&& 2147483647) % 5).toInt = 4 := by omega
  rcases q with q | q | q | q | q
  · exact Or.inl (e _ 0 q)
  · exact Or.inr (Or.inl (e _ 1 q))
  · exact Or.inr (Or.inr (Or.inl (e _ 2 q)))
  · exact Or.inr (Or.inr (Or.inr (Or.inl (e _ 3 q))))
  · exact Or.inr (Or.inr (Or.inr (Or.inr (e _ 4 q))))
theorem own_cap (x : Int32) : ¬ (x &&& 7) < 0 ∧ (x &&& 7).toNatClampNeg ≤ 8 ∧ (x &&& 7).toInt ≤ 10 := by
  have m := c_mask x 7 3 (by decide) (by decide)
  have z0 : (0 : Int32).toInt = 0 := rfl
  simp only [Int32.lt_iff_toInt_lt, Int32.toNatClampNeg]; omega
theorem own_pos (s n1 : Int32) (h : 0 < n1.toInt) : 0 ≤ ((s &&& 2147483647) % n1).toInt ∧ ((s &&& 2147483647) % n1).toInt < n1.toInt := by
  have m := c_mask s 2147483647 31 (by decide) (by decide)
  have q : 0 ≤ (s &&& 2147483647).toInt := by rw [m]; omega
  have r := (c_irem (s &&& 2147483647) n1 n1.toInt rfl).1 q
  rw [r]; exact ⟨Int.emod_nonneg _ (by omega), Int.emod_lt_of_pos _ h⟩
theorem own_st (s n n1 : Int32) (h : n1.toInt = n.toInt + 1) (hn : 0 ≤ n.toInt ∧ n.toInt ≤ 4) (a : Int32) (ha : a = (s &&& 2147483647) % n1) : 0 ≤ a.toInt ∧ a.toInt ≤ n.toInt := by
  have := own_pos s n1 (by omega); subst ha; omega
theorem own_nz (n a : Int32) (hn : 0 ≤ n.toInt ∧ n.toInt ≤ 4) (ha : 0 ≤ a.toInt ∧ a.toInt ≤ n.toInt) : (n - a + 1).toInt = n.toInt - a.toInt + 1 ∧ n - a + 1 ≠ 0 := by
  have z1 : (1 : Int32).toInt = 1 := rfl
  have s1 := c_isub n a; have r1 := rng32 (n - a); have s2 := c_iadd (n - a) 1; have r2 := rng32 (n - a + 1)
  have e : (n - a + 1).toInt = n.toInt - a.toInt + 1 := by omega
  refine ⟨e, fun q => ?_⟩
  rw [q] at e; have z0 : (0 : Int32).toInt = 0 := rfl; omega
theorem own_en (s n a b : Int32) (hn : 0 ≤ n.toInt ∧ n.toInt ≤ 4) (ha : 0 ≤ a.toInt ∧ a.toInt ≤ n.toInt) (hb : b = a + (s &&& 2147483647) % (n - a + 1)) : a.toInt ≤ b.toInt ∧ b.toInt ≤ n.toInt := by
  obtain ⟨e, -⟩ := own_nz n a hn ha
  have q := own_pos s (n - a + 1) (by omega)
  have s1 := c_iadd a ((s &&& 2147483647) % (n - a + 1)); have r1 := rng32 (a + (s &&& 2147483647) % (n - a + 1))
  subst hb; omega
def own_B (m st en : Int32) : Prop := 0 ≤ st.toInt ∧ st.toInt ≤ en.toInt ∧ en.toInt ≤ m.toInt ∧ m.toInt ≤ 4
theorem own_del {z m st en : Int32} (hb : own_B m st en) (hz : ¬ z < m) : ¬ en < 0 ∧ ¬ st < 0 ∧ ¬ (m - en) < 0 ∧ en.toNatClampNeg + (m - en).toNatClampNeg ≤ z.toNatClampNeg ∧ st.toNatClampNeg + (m - en).toNatClampNeg ≤ z.toNatClampNeg ∧ st.toNatClampNeg + (m - en).toNatClampNeg ≤ 16 := by
  obtain ⟨b1, b2, b3, b4⟩ := hb
  have z0 : (0 : Int32).toInt = 0 := rfl
  have s1 := c_isub m en; have r1 := rng32 (m - en)
  simp only [Int32.lt_iff_toInt_lt, Int32.toNatClampNeg] at *
  omega
def own_sl (z : Int32) (vs cs : List Value) (i nl sa ea : Int32) : Prop := ¬ i < nl ∨ ∃ x y : Int32, (¬ i < 0 ∧ i < z) ∧ vs.getD i.toNatClampNeg (.int (0 : Int32)) = .int x ∧ (i < sa → (¬ i < 0 ∧ i < 4) ∧ cs.getD i.toNatClampNeg (.int (0 : Int32)) = .int y) ∧ (¬ i < sa → (¬ (i + (ea - sa)) < 0 ∧ (i + (ea - sa)) < 4) ∧ cs.getD (i + (ea - sa)).toNatClampNeg (.int (0 : Int32)) = .int y) ∧ x = nar .char y
theorem own_slot {z n sa ea nl i : Int32} {vs vs' cs : List Value} {f : Nat → Int32} (I : Nat) (hi : i.toInt = I) (hI : I < 4) (hb : own_B n sa ea) (hz : ¬ z < n) (hnl : nl = n - (ea - sa))
    (hA : ∀ i : Nat, i < sa.toNatClampNeg → vs'.getD i (.int (0 : Int32)) = vs.getD i (.int (0 : Int32))) (hB : ∀ i : Nat, sa.toNatClampNeg ≤ i → i < sa.toNatClampNeg + (n - ea).toNatClampNeg → vs'.getD i (.int (0 : Int32)) = vs.getD (ea.toNatClampNeg + (i - sa.toNatClampNeg)) (.int (0 : Int32)))
    (hf : ∀ j : Nat, j < n.toNatClampNeg → vs.getD j (.int (0 : Int32)) = .int (nar .char (f j)) ∧ cs.getD j (.int (0 : Int32)) = .int (f j)) : own_sl z vs' cs i nl sa ea := by
  obtain ⟨b1, b2, b3, b4⟩ := hb
  have z0 : (0 : Int32).toInt = 0 := rfl
  have z4 : (4 : Int32).toInt = 4 := rfl
  have s1 := c_isub n ea; have r1 := rng32 (n - ea); have s2 := c_isub ea sa; have r2 := rng32 (ea - sa); have s3 := c_isub n (ea - sa); have r3 := rng32 (n - (ea - sa)); have s4 := c_iadd i (ea - sa); have r4 := rng32 (i + (ea - sa))
  have hz' : n.toInt ≤ z.toInt := by rw [Int32.lt_iff_toInt_lt] at hz; omega
  by_cases h : i < nl
  · right
    have h' : i.toInt < nl.toInt := by rw [← Int32.lt_iff_toInt_lt]; exact h
    subst hnl
    have hiN : i.toNatClampNeg = I := by simp only [Int32.toNatClampNeg]; omega
    by_cases q : i < sa
    · have q' : i.toInt < sa.toInt := by rw [← Int32.lt_iff_toInt_lt]; exact q
      have c := hf I (by simp only [Int32.toNatClampNeg]; omega)
      refine ⟨_, f I, ⟨?_, ?_⟩, ?_, fun _ => ⟨⟨?_, ?_⟩, ?_⟩, fun r => absurd q r, rfl⟩
      · rw [Int32.lt_iff_toInt_lt]; omega
      · rw [Int32.lt_iff_toInt_lt]; omega
      · rw [hiN, hA I (by simp only [Int32.toNatClampNeg]; omega)]; exact c.1
      · rw [Int32.lt_iff_toInt_lt]; omega
      · rw [Int32.lt_iff_toInt_lt]; omega
      · rw [hiN]; exact c.2
    · have q' : ¬ i.toInt < sa.toInt := by rw [← Int32.lt_iff_toInt_lt]; exact q
      have e : (i + (ea - sa)).toNatClampNeg = ea.toNatClampNeg + (I - sa.toNatClampNeg) := by simp only [Int32.toNatClampNeg]; omega
      have c := hf (ea.toNatClampNeg + (I - sa.toNatClampNeg)) (by simp only [Int32.toNatClampNeg]; omega)
      refine ⟨_, f (ea.toNatClampNeg + (I - sa.toNatClampNeg)), ⟨?_, ?_⟩, ?_, fun r => absurd r q, fun _ => ⟨⟨?_, ?_⟩, ?_⟩, rfl⟩
      · rw [Int32.lt_iff_toInt_lt]; omega
      · rw [Int32.lt_iff_toInt_lt]; omega
      · rw [hiN, hB I (by simp only [Int32.toNatClampNeg]; omega) (by simp only [Int32.toNatClampNeg]; omega)]; exact c.1
      · rw [Int32.lt_iff_toInt_lt]; omega
      · rw [Int32.lt_iff_toInt_lt]; omega
      · rw [e]; exact c.2
  · exact Or.inl h
theorem own_zl {z n sa ea nl : Int32} (hb : own_B n sa ea) (hz : ¬ z < n) (hnl : nl = n - (ea - sa)) : ¬ z < nl := by
  obtain ⟨b1, b2, b3, b4⟩ := hb
  have s2 := c_isub ea sa; have r2 := rng32 (ea - sa); have s3 := c_isub n (ea - sa); have r3 := rng32 (n - (ea - sa))
  subst hnl; rw [Int32.lt_iff_toInt_lt] at *; omega
def Q3 (Z : State) (a1 b2 : Addr) (p1 p2 z mL : Int32) (k : ClassId) (vs : List Value) (h0 : Heap) (n0 : Nat) (v : Option Value) (h : Heap) (L : List Loc) : Prop := ∃ vs' : List Value, v = none ∧ Fr n0 L ∧ Keep h0 h [a1, b2] ∧ Exa Z h a1 "org/arborlog/pattern/LineText" ∧ Fld Z h a1 "org/arborlog/pattern/LineText" "chars" "[C" (.ref b2) ∧ Fld Z h a1 "org/arborlog/pattern/LineText" "length" "I" (.int (mL - (p2 - p1))) ∧ Arv Z h b2 k .char z vs' (Value.int (0 : Int32)) ∧ (∀ i : Nat, i < p1.toNatClampNeg → vs'.getD i (Value.int (0 : Int32)) = vs.getD i (Value.int (0 : Int32))) ∧ (∀ i : Nat, p1.toNatClampNeg ≤ i → i < p1.toNatClampNeg + (mL - p2).toNatClampNeg → vs'.getD i (Value.int (0 : Int32)) = vs.getD (p2.toNatClampNeg + (i - p1.toNatClampNeg)) (Value.int (0 : Int32)))
theorem d3_0 : decode prog_20_method_10_code 0 = .ok (.aload_n 0, 1) := by decide +kernel
theorem d3_1 : decode prog_20_method_10_code 1 = .ok (.getfield 7, 3) := by decide +kernel
theorem d3_4 : decode prog_20_method_10_code 4 = .ok (.iload_n 2, 1) := by decide +kernel
theorem d3_5 : decode prog_20_method_10_code 5 = .ok (.aload_n 0, 1) := by decide +kernel
theorem d3_6 : decode prog_20_method_10_code 6 = .ok (.getfield 7, 3) := by decide +kernel
theorem d3_9 : decode prog_20_method_10_code 9 = .ok (.iload_n 1, 1) := by decide +kernel
theorem d3_10 : decode prog_20_method_10_code 10 = .ok (.aload_n 0, 1) := by decide +kernel
theorem d3_11 : decode prog_20_method_10_code 11 = .ok (.getfield 13, 3) := by decide +kernel
theorem d3_14 : decode prog_20_method_10_code 14 = .ok (.iload_n 2, 1) := by decide +kernel
theorem d3_15 : decode prog_20_method_10_code 15 = .ok (.isub, 1) := by decide +kernel
theorem d3_16 : decode prog_20_method_10_code 16 = .ok (.invokestatic 42, 3) := by decide +kernel
theorem d3_19 : decode prog_20_method_10_code 19 = .ok (.aload_n 0, 1) := by decide +kernel
theorem d3_20 : decode prog_20_method_10_code 20 = .ok (.dup, 1) := by decide +kernel
theorem d3_21 : decode prog_20_method_10_code 21 = .ok (.getfield 13, 3) := by decide +kernel
theorem d3_24 : decode prog_20_method_10_code 24 = .ok (.iload_n 2, 1) := by decide +kernel
theorem d3_25 : decode prog_20_method_10_code 25 = .ok (.iload_n 1, 1) := by decide +kernel
theorem d3_26 : decode prog_20_method_10_code 26 = .ok (.isub, 1) := by decide +kernel
theorem d3_27 : decode prog_20_method_10_code 27 = .ok (.isub, 1) := by decide +kernel
theorem d3_28 : decode prog_20_method_10_code 28 = .ok (.putfield 13, 3) := by decide +kernel
theorem d3_31 : decode prog_20_method_10_code 31 = .ok (.return_, 1) := by decide +kernel
theorem ef_rm3 (m : MethodId) (x0 : Addr) (x1 : Int32) (x2 : Int32) : entryFrame m #[(.ref x0), (.int x1), (.int x2)] 3 = mkF m 0 #[.val (.ref x0), .val (.int x1), .val (.int x2)] [] := by first | (simp [entryFrame, mkF, argsToLocals, Value.category]; done) | rfl
set_option maxRecDepth 65536 in
set_option maxHeartbeats 40000000 in
theorem rm3 (l : Launch) (Z : State) (a0 : Array Value) (hw : ∀ d ∈ tables_1, d.before a0 Z = true) (ws : List Jvm.Cond) (a1 : Addr) (p1 p2 : Int32) (b2 : Addr) (k : ClassId) (z mL : Int32) (vs : List Value) (h0 : Heap) (n0 : Nat) (Z0 : n0 ≤ h0.size) (E1 : Exa Z h0 a1 "org/arborlog/pattern/LineText") (F1 : Fld Z h0 a1 "org/arborlog/pattern/LineText" "chars" "[C" (.ref b2)) (F2 : Fld Z h0 a1 "org/arborlog/pattern/LineText" "length" "I" (.int mL)) (V2 : Arv Z h0 b2 k .char z vs (Value.int (0 : Int32))) (ne12 : a1 ≠ b2) (g1 : n0 ≤ a1) (g2 : n0 ≤ b2) (hbb : own_B mL p1 p2) (hzm : ¬ z < mL) :
    MetFree l (⟨"org/arborlog/pattern/LineText", "delete", "(II)V"⟩ : MethodName) (head1 (Jvm.Cond.code (⟨"org/arborlog/pattern/LineText", "delete", "(II)V"⟩ : MethodName) prog_20_method_10_code 3 none :: ws) ({ frames := 1, cells := 0, slots := 0, locals := 18 } : Room)) (fun a U => a = #[(.ref a1), (.int p1), (.int p2)] ∧ Z.Warmed39 U.vm ∧ U.heap = h0) (fun _ _ _ _ _ => True) (fun _ U o U' => ∃ v L, o = .returned v ∧ Q3 Z a1 b2 p1 p2 z mL k vs h0 n0 v U'.heap L ∧ FrameEnd U o U' L ({ frames := 1, cells := 0, slots := 0, locals := 18 } : Room).cells ({ frames := 1, cells := 0, slots := 0, locals := 18 } : Room).slots) := by
  refine MetFree.of_bodySF (plainFor_of_name pn_org_arborlog_pattern_LineText) hisR ?_
  intro p e s m args below meth c s₁ Bd hml0 hP hK
  obtain ⟨rfl, hZ, hh⟩ := hP
  have hx := Bd.exec
  have hby := Bd.bytes
  have hml : c.maxLocals = 3 := hml0
  have hown : s.vm.findClass "org/arborlog/pattern/LineText" = some m.cls := findClass_of_methodNamed Bd.named
  have hnm := (name_of_methodNamed Bd.named Bd.method).1
  have X0 : Stand p l e ({ frames := 1, cells := 0, slots := 0, locals := 18 } : Room) s m #[(.ref a1), (.int p1), (.int p2)] below meth c s₁ [] 0 0 := Stand.of_body Bd
  have e0 : s₁.heap = h0 := by rw [← hh, Bd.state]; rfl
  have N0 := Fr.nil n0
  have KP0 : Keep h0 h0 [a1, b2] := Keep.refl h0 _
  obtain ⟨G, hG⟩ : ∃ G : State, G = s₁.setTop (entryFrame m #[(.ref a1), (.int p1), (.int p2)] 3) := ⟨_, rfl⟩
  have pre0 : ∀ t, Steps p.tables e below (s₁.setTop (mkF m 0 #[.val (.ref a1), .val (.int p1), .val (.int p2)] [])) t → Steps p.tables e below G t := fun t k => hG ▸ castTop (ef_rm3 m a1 p1 p2) k
  have K1 : ∀ t, Steps p.tables e below (s₁.setTop (mkF m 1 #[.val (.ref a1), .val (.int p1), .val (.int p2)] [(.ref a1)])) t → Steps p.tables e below G t := by
    intro t k
    refine pre0 t ?_
    show Steps p.tables e below (s₁.setTop (mkF m 0 #[.val (.ref a1), .val (.int p1), .val (.int p2)] [])) _
    refine XS.aloadN X0.here hx rfl (hb hby d3_0) rfl rfl ?_
    show Steps p.tables e below (s₁.setTop (mkF m 1 #[.val (.ref a1), .val (.int p1), .val (.int p2)] [(.ref a1)])) _
    exact k
  obtain ⟨T2, X2, e2, st2⟩ := getF X0 hx hZ hown (host := "") (Or.inl (hw _ (List.mem_of_getElem? (i := 11) rfl))) Via.refl e0 F1 (g := (mkF m 1 #[.val (.ref a1), .val (.int p1), .val (.int p2)] [(.ref a1)])) rfl rfl (hb hby d3_1)
  have K3 : ∀ t, Steps p.tables e below (T2.setTop (mkF m 4 #[.val (.ref a1), .val (.int p1), .val (.int p2)] [(.ref b2)])) t → Steps p.tables e below G t := fun t k => K1 t (st2 t k)
  have K4 : ∀ t, Steps p.tables e below (T2.setTop (mkF m 6 #[.val (.ref a1), .val (.int p1), .val (.int p2)] [(.ref a1), (.int p2), (.ref b2)])) t → Steps p.tables e below G t := by
    intro t k
    refine K3 t ?_
    show Steps p.tables e below (T2.setTop (mkF m 4 #[.val (.ref a1), .val (.int p1), .val (.int p2)] [(.ref b2)])) _
    refine XS.iloadN X2.here hx rfl (hb hby d3_4) rfl ?_
    show Steps p.tables e below (T2.setTop (mkF m 5 #[.val (.ref a1), .val (.int p1), .val (.int p2)] [(.int p2), (.ref b2)])) _
    refine XS.aloadN X2.here hx rfl (hb hby d3_5) rfl rfl ?_
    show Steps p.tables e below (T2.setTop (mkF m 6 #[.val (.ref a1), .val (.int p1), .val (.int p2)] [(.ref a1), (.int p2), (.ref b2)])) _
    exact k
  obtain ⟨T5, X5, e5, st5⟩ := getF X2 hx hZ hown (host := "") (Or.inl (hw _ (List.mem_of_getElem? (i := 11) rfl))) Via.refl e2 F1 (g := (mkF m 6 #[.val (.ref a1), .val (.int p1), .val (.int p2)] [(.ref a1), (.int p2), (.ref b2)])) rfl rfl (hb hby d3_6)
  have K6 : ∀ t, Steps p.tables e below (T5.setTop (mkF m 9 #[.val (.ref a1), .val (.int p1), .val (.int p2)] [(.ref b2), (.int p2), (.ref b2)])) t → Steps p.tables e below G t := fun t k => K4 t (st5 t k)
  have K7 : ∀ t, Steps p.tables e below (T5.setTop (mkF m 11 #[.val (.ref a1), .val (.int p1), .val (.int p2)] [(.ref a1), (.int p1), (.ref b2), (.int p2), (.ref b2)])) t → Steps p.tables e below G t := by
    intro t k
    refine K6 t ?_
    show Steps p.tables e below (T5.setTop (mkF m 9 #[.val (.ref a1), .val (.int p1), .val (.int p2)] [(.ref b2), (.int p2), (.ref b2)])) _
    refine XS.iloadN X5.here hx rfl (hb hby d3_9) rfl ?_
    show Steps p.tables e below (T5.setTop (mkF m 10 #[.val (.ref a1), .val (.int p1), .val (.int p2)] [(.int p1), (.ref b2), (.int p2), (.ref b2)])) _
    refine XS.aloadN X5.here hx rfl (hb hby d3_10) rfl rfl ?_
    show Steps p.tables e below (T5.setTop (mkF m 11 #[.val (.ref a1), .val (.int p1), .val (.int p2)] [(.ref a1), (.int p1), (.ref b2), (.int p2), (.ref b2)])) _
    exact k
  obtain ⟨T8, X8, e8, st8⟩ := getF X5 hx hZ hown (host := "") (Or.inl (hw _ (List.mem_of_getElem? (i := 18) rfl))) Via.refl e5 F2 (g := (mkF m 11 #[.val (.ref a1), .val (.int p1), .val (.int p2)] [(.ref a1), (.int p1), (.ref b2), (.int p2), (.ref b2)])) rfl rfl (hb hby d3_11)
  have K9 : ∀ t, Steps p.tables e below (T8.setTop (mkF m 14 #[.val (.ref a1), .val (.int p1), .val (.int p2)] [(.int mL), (.int p1), (.ref b2), (.int p2), (.ref b2)])) t → Steps p.tables e below G t := fun t k => K7 t (st8 t k)
  have K10 : ∀ t, Steps p.tables e below (T8.setTop (mkF m 16 #[.val (.ref a1), .val (.int p1), .val (.int p2)] [(.int (mL - p2)), (.int p1), (.ref b2), (.int p2), (.ref b2)])) t → Steps p.tables e below G t := by
    intro t k
    refine K9 t ?_
    show Steps p.tables e below (T8.setTop (mkF m 14 #[.val (.ref a1), .val (.int p1), .val (.int p2)] [(.int mL), (.int p1), (.ref b2), (.int p2), (.ref b2)])) _
    refine XS.iloadN X8.here hx rfl (hb hby d3_14) rfl ?_
    show Steps p.tables e below (T8.setTop (mkF m 15 #[.val (.ref a1), .val (.int p1), .val (.int p2)] [(.int p2), (.int mL), (.int p1), (.ref b2), (.int p2), (.ref b2)])) _
    refine XS.isub X8.here hx rfl (hb hby d3_15) rfl ?_
    show Steps p.tables e below (T8.setTop (mkF m 16 #[.val (.ref a1), .val (.int p1), .val (.int p2)] [(.int (mL - p2)), (.int p1), (.ref b2), (.int p2), (.ref b2)])) _
    exact k
  have hd := own_del hbb hzm
  have VP12 := V2.pad (pad_rep vs (Value.int (0 : Int32)) 16)
  obtain ⟨T11, h11, L11, X11, e11, N11, K11, V11, st11⟩ := cpA X8 hx hZ hown (hw _ (List.mem_of_getElem? (i := 20) rfl)) (hw _ (List.mem_of_getElem? (i := 23) rfl)) (hw _ (List.mem_of_getElem? (i := 21) rfl)) (hw _ (List.mem_of_getElem? (i := 22) rfl)) e8 V2 VP12 (Or.inl ⟨rfl, rfl⟩) hd.1 hd.2.1 hd.2.2.1 hd.2.2.2.1 hd.2.2.2.2.1 rfl (Nat.le_trans hd.2.2.2.2.2 (own_padl _ _)) N0 g2 (g := (mkF m 16 #[.val (.ref a1), .val (.int p1), .val (.int p2)] [(.int (mL - p2)), (.int p1), (.ref b2), (.int p2), (.ref b2)])) rfl (by rw [hml]; rfl) rfl (hb hby d3_16) (by decide) (W := 0) (by show 2 * 0 + _ ≤ _; exact Nat.le_of_eq rfl) (by decide)
  have K13 : ∀ t, Steps p.tables e below (T11.setTop (mkF m 19 #[.val (.ref a1), .val (.int p1), .val (.int p2)] [])) t → Steps p.tables e below G t := fun t k => K10 t (st11 t k)
  have f14 := E1.keep K11
  have f15 := F1.keep K11 (ninS ne12 nin0)
  have f16 := F2.keep K11 (ninS ne12 nin0)
  have Z17 : n0 ≤ h11.size := Nat.le_trans Z0 K11.1
  have KP18 : Keep h0 h11 [a1, b2] := KP0.trans K11 (allS (Or.inl (List.mem_of_getElem? (i := 1) rfl)) all0)
  have K19 : ∀ t, Steps p.tables e below (T11.setTop (mkF m 21 #[.val (.ref a1), .val (.int p1), .val (.int p2)] [(.ref a1), (.ref a1)])) t → Steps p.tables e below G t := by
    intro t k
    refine K13 t ?_
    show Steps p.tables e below (T11.setTop (mkF m 19 #[.val (.ref a1), .val (.int p1), .val (.int p2)] [])) _
    refine XS.aloadN X11.here hx rfl (hb hby d3_19) rfl rfl ?_
    show Steps p.tables e below (T11.setTop (mkF m 20 #[.val (.ref a1), .val (.int p1), .val (.int p2)] [(.ref a1)])) _
    refine XS.dup X11.here hx rfl (hb hby d3_20) rfl rfl ?_
    show Steps p.tables e below (T11.setTop (mkF m 21 #[.val (.ref a1), .val (.int p1), .val (.int p2)] [(.ref a1), (.ref a1)])) _
    exact k
  obtain ⟨T20, X20, e20, st20⟩ := getF X11 hx hZ hown (host := "") (Or.inl (hw _ (List.mem_of_getElem? (i := 18) rfl))) Via.refl e11 f16 (g := (mkF m 21 #[.val (.ref a1), .val (.int p1), .val (.int p2)] [(.ref a1), (.ref a1)])) rfl rfl (hb hby d3_21)
  have K21 : ∀ t, Steps p.tables e below (T20.setTop (mkF m 24 #[.val (.ref a1), .val (.int p1), .val (.int p2)] [(.int mL), (.ref a1)])) t → Steps p.tables e below G t := fun t k => K19 t (st20 t k)
  have K22 : ∀ t, Steps p.tables e below (T20.setTop (mkF m 28 #[.val (.ref a1), .val (.int p1), .val (.int p2)] [(.int (mL - (p2 - p1))), (.ref a1)])) t → Steps p.tables e below G t := by
    intro t k
    refine K21 t ?_
    show Steps p.tables e below (T20.setTop (mkF m 24 #[.val (.ref a1), .val (.int p1), .val (.int p2)] [(.int mL), (.ref a1)])) _
    refine XS.iloadN X20.here hx rfl (hb hby d3_24) rfl ?_
    show Steps p.tables e below (T20.setTop (mkF m 25 #[.val (.ref a1), .val (.int p1), .val (.int p2)] [(.int p2), (.int mL), (.ref a1)])) _
    refine XS.iloadN X20.here hx rfl (hb hby d3_25) rfl ?_
    show Steps p.tables e below (T20.setTop (mkF m 26 #[.val (.ref a1), .val (.int p1), .val (.int p2)] [(.int p1), (.int p2), (.int mL), (.ref a1)])) _
    refine XS.isub X20.here hx rfl (hb hby d3_26) rfl ?_
    show Steps p.tables e below (T20.setTop (mkF m 27 #[.val (.ref a1), .val (.int p1), .val (.int p2)] [(.int (p2 - p1)), (.int mL), (.ref a1)])) _
    refine XS.isub X20.here hx rfl (hb hby d3_27) rfl ?_
    show Steps p.tables e below (T20.setTop (mkF m 28 #[.val (.ref a1), .val (.int p1), .val (.int p2)] [(.int (mL - (p2 - p1))), (.ref a1)])) _
    exact k
  obtain ⟨T23, h23, X23, e23, W23, st23⟩ := putF X20 hx hZ hown (host := "") (Or.inl (hw _ (List.mem_of_getElem? (i := 18) rfl))) Via.refl e20 f16 f14 (Or.inl (hw _ (List.mem_of_getElem? (i := 19) rfl))) (hw _ (List.mem_of_getElem? (i := 3) rfl)) (ty := .int) (by decide) rfl rfl (g := (mkF m 28 #[.val (.ref a1), .val (.int p1), .val (.int p2)] [(.int (mL - (p2 - p1))), (.ref a1)])) rfl rfl (hb hby d3_28)
  have K24 : ∀ t, Steps p.tables e below (T23.setTop (mkF m 31 #[.val (.ref a1), .val (.int p1), .val (.int p2)] [])) t → Steps p.tables e below G t := fun t k => K22 t (st23 t k)
  have f25 := f14.wr W23
  have f26 := f15.other W23 (Or.inr (slot_ne (Or.inl (hw _ (List.mem_of_getElem? (i := 12) rfl))) (Or.inl (hw _ (List.mem_of_getElem? (i := 19) rfl))) (by decide) (t := (.array .char)) (t' := .int) (by decide) (by decide)))
  have f27 := f16.same W23
  have f28 := V11.other W23 (Ne.symm ne12)
  have Z29 : n0 ≤ h23.size := Nat.le_trans Z17 (Keep.of_wr W23).1
  have KP30 : Keep h0 h23 [a1, b2] := KP18.wr W23 (Or.inl (List.mem_of_getElem? (i := 0) rfl))
  have N31 := Fr.snoc X23 N11 g1
  obtain ⟨fs, hr, hrun, hended, hW, hsame⟩ := X23.leave (v := none) (fun _ => rfl)
  have KF := K24
  rw [hG] at KF
  refine ⟨_, _, KF _ ?_, hrun, hended, _, _, rfl, ?_, ⟨_, rfl⟩, hW, hsame.mono (by decide) (by decide)⟩
  · show Steps p.tables e below (T23.setTop (mkF m 31 #[.val (.ref a1), .val (.int p1), .val (.int p2)] [])) _
    exact X23.returnOut hx Bd.returns (hb hby d3_31) hr
  · show Q3 Z a1 b2 p1 p2 z mL k vs h0 n0 _ T23.heap _
    rw [e23]
    refine ⟨_, rfl, N31, KP30, f25, f26, f27, f28, fun i hi => ?_, fun i h1 h2 => ?_⟩
    · rw [own_cp _ _ _ _ _ _ (Nat.le_trans hd.2.2.2.2.2 (own_padl _ _)), if_pos hi, own_pad]
    · rw [own_cp _ _ _ _ _ _ (Nat.le_trans hd.2.2.2.2.2 (own_padl _ _)), if_neg (Nat.not_lt.mpr h1), if_pos h2]
def Q12 (a1 : Addr) (p2 p3 p4 : Int32) (k : ClassId) (cs : List Value) (y : Int32) (h0 : Heap) (n0 : Nat) (v : Option Value) (h : Heap) (L : List Loc) : Prop := v = some (.int (nar .char y)) ∧ Fr n0 L ∧ h = h0
theorem d12_0 : decode method_2_code 0 = .ok (.iload_n 1, 1) := by decide +kernel
theorem d12_1 : decode method_2_code 1 = .ok (.iload_n 2, 1) := by decide +kernel
theorem d12_2 : decode method_2_code 2 = .ok (.if_icmp .ge 7, 3) := by decide +kernel
theorem d12_5 : decode method_2_code 5 = .ok (.aload_n 0, 1) := by decide +kernel
theorem d12_6 : decode method_2_code 6 = .ok (.iload_n 1, 1) := by decide +kernel
theorem d12_7 : decode method_2_code 7 = .ok (.caload, 1) := by decide +kernel
theorem d12_8 : decode method_2_code 8 = .ok (.ireturn, 1) := by decide +kernel
theorem d12_9 : decode method_2_code 9 = .ok (.aload_n 0, 1) := by decide +kernel
theorem d12_10 : decode method_2_code 10 = .ok (.iload_n 1, 1) := by decide +kernel
theorem d12_11 : decode method_2_code 11 = .ok (.iload_n 3, 1) := by decide +kernel
theorem d12_12 : decode method_2_code 12 = .ok (.iload_n 2, 1) := by decide +kernel
theorem d12_13 : decode method_2_code 13 = .ok (.isub, 1) := by decide +kernel
theorem d12_14 : decode method_2_code 14 = .ok (.iadd, 1) := by decide +kernel
theorem d12_15 : decode method_2_code 15 = .ok (.caload, 1) := by decide +kernel
theorem d12_16 : decode method_2_code 16 = .ok (.ireturn, 1) := by decide +kernel
theorem pn_org_arborlog_pattern_LineTextDeletePinLaw : plainName "org/arborlog/pattern/LineTextDeletePinLaw" = true := by first | (simp [plainName, overriddenIn]; done) | decide +kernel
theorem ef_rm12 (m : MethodId) (x0 : Addr) (x1 : Int32) (x2 : Int32) (x3 : Int32) : entryFrame m #[(.ref x0), (.int x1), (.int x2), (.int x3)] 4 = mkF m 0 #[.val (.ref x0), .val (.int x1), .val (.int x2), .val (.int x3)] [] := by first | (simp [entryFrame, mkF, argsToLocals, Value.category]; done) | rfl
set_option maxRecDepth 65536 in
set_option maxHeartbeats 40000000 in
theorem rm12 (l : Launch) (Z : State) (a0 : Array Value) (hw : ∀ d ∈ tables_1, d.before a0 Z = true) (ws : List Jvm.Cond) (a1 : Addr) (p2 p3 p4 : Int32) (k : ClassId) (cs : List Value) (y : Int32) (h0 : Heap) (n0 : Nat) (Z0 : n0 ≤ h0.size) (V1 : Arv Z h0 a1 k .char (4 : Int32) cs (Value.int (0 : Int32))) (h1 : p2 < p3 → (¬ p2 < 0 ∧ p2 < 4) ∧ cs.getD p2.toNatClampNeg (Value.int (0 : Int32)) = .int y) (h2 : ¬ p2 < p3 → (¬ (p2 + (p4 - p3)) < 0 ∧ (p2 + (p4 - p3)) < 4) ∧ cs.getD (p2 + (p4 - p3)).toNatClampNeg (Value.int (0 : Int32)) = .int y) :
    MetFree l (⟨"org/arborlog/pattern/LineTextDeletePinLaw", "expect", "([CIII)C"⟩ : MethodName) (head1 (Jvm.Cond.code (⟨"org/arborlog/pattern/LineTextDeletePinLaw", "expect", "([CIII)C"⟩ : MethodName) method_2_code 4 (some .char) :: ws) ({ frames := 0, cells := 0, slots := 0, locals := 0 } : Room)) (fun a U => a = #[(.ref a1), (.int p2), (.int p3), (.int p4)] ∧ Z.Warmed39 U.vm ∧ U.heap = h0) (fun _ _ _ _ _ => True) (fun _ U o U' => ∃ v L, o = .returned v ∧ Q12 a1 p2 p3 p4 k cs y h0 n0 v U'.heap L ∧ FrameEnd U o U' L ({ frames := 0, cells := 0, slots := 0, locals := 0 } : Room).cells ({ frames := 0, cells := 0, slots := 0, locals := 0 } : Room).slots) := by
  refine MetFree.of_bodySF (plainFor_of_name pn_org_arborlog_pattern_LineTextDeletePinLaw) hisR ?_
  intro p e s m args below meth c s₁ Bd hml0 hP hK
  obtain ⟨rfl, hZ, hh⟩ := hP
  have hx := Bd.exec
  have hby := Bd.bytes
  have hml : c.maxLocals = 4 := hml0
  have hown : s.vm.findClass "org/arborlog/pattern/LineTextDeletePinLaw" = some m.cls := findClass_of_methodNamed Bd.named
  have hnm := (name_of_methodNamed Bd.named Bd.method).1
  have X0 : Stand p l e ({ frames := 0, cells := 0, slots := 0, locals := 0 } : Room) s m #[(.ref a1), (.int p2), (.int p3), (.int p4)] below meth c s₁ [] 0 0 := Stand.of_body Bd
  have e0 : s₁.heap = h0 := by rw [← hh, Bd.state]; rfl
  have N0 := Fr.nil n0
  have KP0 : Keep h0 h0 [] := Keep.refl h0 _
  obtain ⟨G, hG⟩ : ∃ G : State, G = s₁.setTop (entryFrame m #[(.ref a1), (.int p2), (.int p3), (.int p4)] 4) := ⟨_, rfl⟩
  have pre0 : ∀ t, Steps p.tables e below (s₁.setTop (mkF m 0 #[.val (.ref a1), .val (.int p2), .val (.int p3), .val (.int p4)] [])) t → Steps p.tables e below G t := fun t k => hG ▸ castTop (ef_rm12 m a1 p2 p3 p4) k
  have K1 : ∀ t, Steps p.tables e below (s₁.setTop (mkF m 2 #[.val (.ref a1), .val (.int p2), .val (.int p3), .val (.int p4)] [(.int p3), (.int p2)])) t → Steps p.tables e below G t := by
    intro t k
    refine pre0 t ?_
    show Steps p.tables e below (s₁.setTop (mkF m 0 #[.val (.ref a1), .val (.int p2), .val (.int p3), .val (.int p4)] [])) _
    refine XS.iloadN X0.here hx rfl (hb hby d12_0) rfl ?_
    show Steps p.tables e below (s₁.setTop (mkF m 1 #[.val (.ref a1), .val (.int p2), .val (.int p3), .val (.int p4)] [(.int p2)])) _
    refine XS.iloadN X0.here hx rfl (hb hby d12_1) rfl ?_
    show Steps p.tables e below (s₁.setTop (mkF m 2 #[.val (.ref a1), .val (.int p2), .val (.int p3), .val (.int p4)] [(.int p3), (.int p2)])) _
    exact k
  by_cases hc2 : p2 < p3
  · have K3 : ∀ t, Steps p.tables e below (s₁.setTop (mkF m 7 #[.val (.ref a1), .val (.int p2), .val (.int p3), .val (.int p4)] [(.int p2), (.ref a1)])) t → Steps p.tables e below G t := by
      intro t k
      refine K1 t ?_
      show Steps p.tables e below (s₁.setTop (mkF m 2 #[.val (.ref a1), .val (.int p2), .val (.int p3), .val (.int p4)] [(.int p3), (.int p2)])) _
      refine XS.icmpNo X0.here hx rfl (hb hby d12_2) rfl (tlt hc2).2.1 ?_
      show Steps p.tables e below (s₁.setTop (mkF m 5 #[.val (.ref a1), .val (.int p2), .val (.int p3), .val (.int p4)] [])) _
      refine XS.aloadN X0.here hx rfl (hb hby d12_5) rfl rfl ?_
      show Steps p.tables e below (s₁.setTop (mkF m 6 #[.val (.ref a1), .val (.int p2), .val (.int p3), .val (.int p4)] [(.ref a1)])) _
      refine XS.iloadN X0.here hx rfl (hb hby d12_6) rfl ?_
      show Steps p.tables e below (s₁.setTop (mkF m 7 #[.val (.ref a1), .val (.int p2), .val (.int p3), .val (.int p4)] [(.int p2), (.ref a1)])) _
      exact k
    obtain ⟨cl4, Ar4, qc4, S4, M4, Ha4, Ga4⟩ := id V1
    have hin4 : ¬ (p2 < 0 ∨ cl4.slots.size ≤ (p2).toNatClampNeg) := inb_of S4 (h1 hc2).1
    have hat4 : cl4.slots[(p2).toNatClampNeg]? = some (.int y) := Ha4.at hin4 (h1 hc2).2
    have K5 : ∀ t, Steps p.tables e below (s₁.setTop (mkF m 8 #[.val (.ref a1), .val (.int p2), .val (.int p3), .val (.int p4)] [(.int y)])) t → Steps p.tables e below G t := fun t k => K3 t (X0.caload hx (j := p2) (v := (.int y)) (by rw [e0]; exact Ar4.1) (State.isArrayOf_alike hZ.alike Ar4.2.1) Ar4.2.2 hin4 hat4 (g := (mkF m 7 #[.val (.ref a1), .val (.int p2), .val (.int p3), .val (.int p4)] [(.int p2), (.ref a1)])) rfl rfl (hb hby d12_7) _ k)
    obtain ⟨fs, hr, hrun, hended, hW, hsame⟩ := X0.leave (v := some (.int (nar .char y))) (fun h => by rw [Bd.returns] at h; cases h)
    have KF := K5
    rw [hG] at KF
    refine ⟨_, _, KF _ ?_, hrun, hended, _, _, rfl, ?_, ⟨_, rfl⟩, hW, hsame.mono (by decide) (by decide)⟩
    · show Steps p.tables e below (s₁.setTop (mkF m 8 #[.val (.ref a1), .val (.int p2), .val (.int p3), .val (.int p4)] [(.int y)])) _
      exact retN X0 hx (t := .char) Bd.returns (by simp) (hb hby d12_8) hr
    · show Q12 a1 p2 p3 p4 k cs y h0 n0 _ s₁.heap _
      rw [e0]
      exact ⟨rfl, N0, rfl⟩
  · have K6 : ∀ t, Steps p.tables e below (s₁.setTop (mkF m 15 #[.val (.ref a1), .val (.int p2), .val (.int p3), .val (.int p4)] [(.int (p2 + (p4 - p3))), (.ref a1)])) t → Steps p.tables e below G t := by
      intro t k
      refine K1 t ?_
      show Steps p.tables e below (s₁.setTop (mkF m 2 #[.val (.ref a1), .val (.int p2), .val (.int p3), .val (.int p4)] [(.int p3), (.int p2)])) _
      refine XS.icmpYes X0.here hx rfl (pc0 := 2) (pc' := 9) rfl (hb hby d12_2) rfl (flt hc2).2.1 (by decide) (by decide) ?_
      show Steps p.tables e below (s₁.setTop (mkF m 9 #[.val (.ref a1), .val (.int p2), .val (.int p3), .val (.int p4)] [])) _
      refine XS.aloadN X0.here hx rfl (hb hby d12_9) rfl rfl ?_
      show Steps p.tables e below (s₁.setTop (mkF m 10 #[.val (.ref a1), .val (.int p2), .val (.int p3), .val (.int p4)] [(.ref a1)])) _
      refine XS.iloadN X0.here hx rfl (hb hby d12_10) rfl ?_
      show Steps p.tables e below (s₁.setTop (mkF m 11 #[.val (.ref a1), .val (.int p2), .val (.int p3), .val (.int p4)] [(.int p2), (.ref a1)])) _
      refine XS.iloadN X0.here hx rfl (hb hby d12_11) rfl ?_
      show Steps p.tables e below (s₁.setTop (mkF m 12 #[.val (.ref a1), .val (.int p2), .val (.int p3), .val (.int p4)] [(.int p4), (.int p2), (.ref a1)])) _
      refine XS.iloadN X0.here hx rfl (hb hby d12_12) rfl ?_
      show Steps p.tables e below (s₁.setTop (mkF m 13 #[.val (.ref a1), .val (.int p2), .val (.int p3), .val (.int p4)] [(.int p3), (.int p4), (.int p2), (.ref a1)])) _
      refine XS.isub X0.here hx rfl (hb hby d12_13) rfl ?_
      show Steps p.tables e below (s₁.setTop (mkF m 14 #[.val (.ref a1), .val (.int p2), .val (.int p3), .val (.int p4)] [(.int (p4 - p3)), (.int p2), (.ref a1)])) _
      refine XS.iadd X0.here hx rfl (hb hby d12_14) rfl ?_
      show Steps p.tables e below (s₁.setTop (mkF m 15 #[.val (.ref a1), .val (.int p2), .val (.int p3), .val (.int p4)] [(.int (p2 + (p4 - p3))), (.ref a1)])) _
      exact k
    obtain ⟨cl7, Ar7, qc7, S7, M7, Ha7, Ga7⟩ := id V1
    have hin7 : ¬ ((p2 + (p4 - p3)) < 0 ∨ cl7.slots.size ≤ ((p2 + (p4 - p3))).toNatClampNeg) := inb_of S7 (h2 hc2).1
    have hat7 : cl7.slots[((p2 + (p4 - p3))).toNatClampNeg]? = some (.int y) := Ha7.at hin7 (h2 hc2).2
    have K8 : ∀ t, Steps p.tables e below (s₁.setTop (mkF m 16 #[.val (.ref a1), .val (.int p2), .val (.int p3), .val (.int p4)] [(.int y)])) t → Steps p.tables e below G t := fun t k => K6 t (X0.caload hx (j := (p2 + (p4 - p3))) (v := (.int y)) (by rw [e0]; exact Ar7.1) (State.isArrayOf_alike hZ.alike Ar7.2.1) Ar7.2.2 hin7 hat7 (g := (mkF m 15 #[.val (.ref a1), .val (.int p2), .val (.int p3), .val (.int p4)] [(.int (p2 + (p4 - p3))), (.ref a1)])) rfl rfl (hb hby d12_15) _ k)
    obtain ⟨fs, hr, hrun, hended, hW, hsame⟩ := X0.leave (v := some (.int (nar .char y))) (fun h => by rw [Bd.returns] at h; cases h)
    have KF := K8
    rw [hG] at KF
    refine ⟨_, _, KF _ ?_, hrun, hended, _, _, rfl, ?_, ⟨_, rfl⟩, hW, hsame.mono (by decide) (by decide)⟩
    · show Steps p.tables e below (s₁.setTop (mkF m 16 #[.val (.ref a1), .val (.int p2), .val (.int p3), .val (.int p4)] [(.int y)])) _
      exact retN X0 hx (t := .char) Bd.returns (by simp) (hb hby d12_16) hr
    · show Q12 a1 p2 p3 p4 k cs y h0 n0 _ s₁.heap _
      rw [e0]
      exact ⟨rfl, N0, rfl⟩
def Q6 (a1 a2 : Addr) (p3 p4 p5 p6 : Int32) (k1 k2 : ClassId) (z : Int32) (vs cs : List Value) (h0 : Heap) (n0 : Nat) (v : Option Value) (h : Heap) (L : List Loc) : Prop := v = some (.int (1 : Int32)) ∧ Fr n0 L ∧ h = h0
theorem d6_0 : decode method_3_code 0 = .ok (.iload_n 2, 1) := by decide +kernel
theorem d6_1 : decode method_3_code 1 = .ok (.iload_n 3, 1) := by decide +kernel
theorem d6_2 : decode method_3_code 2 = .ok (.if_icmp .lt 5, 3) := by decide +kernel
theorem d6_5 : decode method_3_code 5 = .ok (.iconst 1, 1) := by decide +kernel
theorem d6_6 : decode method_3_code 6 = .ok (.ireturn, 1) := by decide +kernel
theorem d6_7 : decode method_3_code 7 = .ok (.aload_n 0, 1) := by decide +kernel
theorem d6_8 : decode method_3_code 8 = .ok (.iload_n 2, 1) := by decide +kernel
theorem d6_9 : decode method_3_code 9 = .ok (.caload, 1) := by decide +kernel
theorem d6_10 : decode method_3_code 10 = .ok (.aload_n 1, 1) := by decide +kernel
theorem d6_11 : decode method_3_code 11 = .ok (.iload_n 2, 1) := by decide +kernel
theorem d6_12 : decode method_3_code 12 = .ok (.iload 4, 2) := by decide +kernel
theorem d6_14 : decode method_3_code 14 = .ok (.iload 5, 2) := by decide +kernel
theorem d6_16 : decode method_3_code 16 = .ok (.invokestatic 7, 3) := by decide +kernel
theorem d6_19 : decode method_3_code 19 = .ok (.if_icmp .ne 7, 3) := by decide +kernel
theorem d6_22 : decode method_3_code 22 = .ok (.iconst 1, 1) := by decide +kernel
theorem d6_23 : decode method_3_code 23 = .ok (.goto 4, 3) := by decide +kernel
theorem d6_26 : decode method_3_code 26 = .ok (.iconst 0, 1) := by decide +kernel
theorem d6_27 : decode method_3_code 27 = .ok (.ireturn, 1) := by decide +kernel
theorem pd_3 : parseMethodDescriptor "([CIII)C" = some ⟨[(.array .char), .int, .int, .int], some .char⟩ := by decide +kernel
theorem ef_rm6 (m : MethodId) (x0 : Addr) (x1 : Addr) (x2 : Int32) (x3 : Int32) (x4 : Int32) (x5 : Int32) : entryFrame m #[(.ref x0), (.ref x1), (.int x2), (.int x3), (.int x4), (.int x5)] 6 = mkF m 0 #[.val (.ref x0), .val (.ref x1), .val (.int x2), .val (.int x3), .val (.int x4), .val (.int x5)] [] := by first | (simp [entryFrame, mkF, argsToLocals, Value.category]; done) | rfl
set_option maxRecDepth 65536 in
set_option maxHeartbeats 40000000 in
theorem rm6 (l : Launch) (Z : State) (a0 : Array Value) (hw : ∀ d ∈ tables_1, d.before a0 Z = true) (ws : List Jvm.Cond) (a1 a2 : Addr) (p3 p4 p5 p6 : Int32) (k1 k2 : ClassId) (z : Int32) (vs cs : List Value) (h0 : Heap) (n0 : Nat) (Z0 : n0 ≤ h0.size) (V1 : Arv Z h0 a1 k1 .char z vs (Value.int (0 : Int32))) (V2 : Arv Z h0 a2 k2 .char (4 : Int32) cs (Value.int (0 : Int32))) (hs : own_sl z vs cs p3 p4 p5 p6) :
    MetFree l (⟨"org/arborlog/pattern/LineTextDeletePinLaw", "slotOk", "([C[CIIII)Z"⟩ : MethodName) (head1 (Jvm.Cond.code (⟨"org/arborlog/pattern/LineTextDeletePinLaw", "slotOk", "([C[CIIII)Z"⟩ : MethodName) method_3_code 6 (some .boolean) :: ws) ({ frames := 1, cells := 0, slots := 0, locals := 16 } : Room)) (fun a U => a = #[(.ref a1), (.ref a2), (.int p3), (.int p4), (.int p5), (.int p6)] ∧ Z.Warmed39 U.vm ∧ U.heap = h0) (fun _ _ _ _ _ => True) (fun _ U o U' => ∃ v L, o = .returned v ∧ Q6 a1 a2 p3 p4 p5 p6 k1 k2 z vs cs h0 n0 v U'.heap L ∧ FrameEnd U o U' L ({ frames := 1, cells := 0, slots := 0, locals := 16 } : Room).cells ({ frames := 1, cells := 0, slots := 0, locals := 16 } : Room).slots) := by
  refine MetFree.of_bodySF (plainFor_of_name pn_org_arborlog_pattern_LineTextDeletePinLaw) hisR ?_
  intro p e s m args below meth c s₁ Bd hml0 hP hK
  obtain ⟨rfl, hZ, hh⟩ := hP
  have hx := Bd.exec
  have hby := Bd.bytes
  have hml : c.maxLocals = 6 := hml0
  have hown : s.vm.findClass "org/arborlog/pattern/LineTextDeletePinLaw" = some m.cls := findClass_of_methodNamed Bd.named
  have hnm := (name_of_methodNamed Bd.named Bd.method).1
  have X0 : Stand p l e ({ frames := 1, cells := 0, slots := 0, locals := 16 } : Room) s m #[(.ref a1), (.ref a2), (.int p3), (.int p4), (.int p5), (.int p6)] below meth c s₁ [] 0 0 := Stand.of_body Bd
  have e0 : s₁.heap = h0 := by rw [← hh, Bd.state]; rfl
  have N0 := Fr.nil n0
  have KP0 : Keep h0 h0 [] := Keep.refl h0 _
  obtain ⟨G, hG⟩ : ∃ G : State, G = s₁.setTop (entryFrame m #[(.ref a1), (.ref a2), (.int p3), (.int p4), (.int p5), (.int p6)] 6) := ⟨_, rfl⟩
  have pre0 : ∀ t, Steps p.tables e below (s₁.setTop (mkF m 0 #[.val (.ref a1), .val (.ref a2), .val (.int p3), .val (.int p4), .val (.int p5), .val (.int p6)] [])) t → Steps p.tables e below G t := fun t k => hG ▸ castTop (ef_rm6 m a1 a2 p3 p4 p5 p6) k
  rcases hs with hA | ⟨x, y, hx', hxv, hy1, hy2, hxy⟩
  · obtain ⟨fs, hr, hrun, hended, hW, hsame⟩ := X0.leave (v := some (.int (1 : Int32))) (fun h => by rw [Bd.returns] at h; cases h)
    have KF := pre0
    rw [hG] at KF
    refine ⟨_, _, KF _ ?_, hrun, hended, _, _, rfl, ?_, ⟨_, rfl⟩, hW, hsame.mono (by decide) (by decide)⟩
    · show Steps p.tables e below (s₁.setTop (mkF m 0 #[.val (.ref a1), .val (.ref a2), .val (.int p3), .val (.int p4), .val (.int p5), .val (.int p6)] [])) _
      refine XS.iloadN X0.here hx rfl (hb hby d6_0) rfl ?_
      show Steps p.tables e below (s₁.setTop (mkF m 1 #[.val (.ref a1), .val (.ref a2), .val (.int p3), .val (.int p4), .val (.int p5), .val (.int p6)] [(.int p3)])) _
      refine XS.iloadN X0.here hx rfl (hb hby d6_1) rfl ?_
      show Steps p.tables e below (s₁.setTop (mkF m 2 #[.val (.ref a1), .val (.ref a2), .val (.int p3), .val (.int p4), .val (.int p5), .val (.int p6)] [(.int p4), (.int p3)])) _
      refine XS.icmpNo X0.here hx rfl (hb hby d6_2) rfl (flt hA).1 ?_
      show Steps p.tables e below (s₁.setTop (mkF m 5 #[.val (.ref a1), .val (.ref a2), .val (.int p3), .val (.int p4), .val (.int p5), .val (.int p6)] [])) _
      refine XS.iconst X0.here hx rfl (hb hby d6_5) ?_
      show Steps p.tables e below (s₁.setTop (mkF m 6 #[.val (.ref a1), .val (.ref a2), .val (.int p3), .val (.int p4), .val (.int p5), .val (.int p6)] [(.int (1 : Int32))])) _
      exact retN X0 hx (t := .boolean) Bd.returns (by simp) (hb hby d6_6) hr
    · show Q6 a1 a2 p3 p4 p5 p6 k1 k2 z vs cs h0 n0 _ s₁.heap _
      rw [e0]
      exact ⟨rfl, N0, rfl⟩
  · have K1 : ∀ t, Steps p.tables e below (s₁.setTop (mkF m 2 #[.val (.ref a1), .val (.ref a2), .val (.int p3), .val (.int p4), .val (.int p5), .val (.int p6)] [(.int p4), (.int p3)])) t → Steps p.tables e below G t := by
      intro t k
      refine pre0 t ?_
      show Steps p.tables e below (s₁.setTop (mkF m 0 #[.val (.ref a1), .val (.ref a2), .val (.int p3), .val (.int p4), .val (.int p5), .val (.int p6)] [])) _
      refine XS.iloadN X0.here hx rfl (hb hby d6_0) rfl ?_
      show Steps p.tables e below (s₁.setTop (mkF m 1 #[.val (.ref a1), .val (.ref a2), .val (.int p3), .val (.int p4), .val (.int p5), .val (.int p6)] [(.int p3)])) _
      refine XS.iloadN X0.here hx rfl (hb hby d6_1) rfl ?_
      show Steps p.tables e below (s₁.setTop (mkF m 2 #[.val (.ref a1), .val (.ref a2), .val (.int p3), .val (.int p4), .val (.int p5), .val (.int p6)] [(.int p4), (.int p3)])) _
      exact k
    by_cases hc2 : p3 < p4
    · have K3 : ∀ t, Steps p.tables e below (s₁.setTop (mkF m 9 #[.val (.ref a1), .val (.ref a2), .val (.int p3), .val (.int p4), .val (.int p5), .val (.int p6)] [(.int p3), (.ref a1)])) t → Steps p.tables e below G t := by
        intro t k
        refine K1 t ?_
        show Steps p.tables e below (s₁.setTop (mkF m 2 #[.val (.ref a1), .val (.ref a2), .val (.int p3), .val (.int p4), .val (.int p5), .val (.int p6)] [(.int p4), (.int p3)])) _
        refine XS.icmpYes X0.here hx rfl (pc0 := 2) (pc' := 7) rfl (hb hby d6_2) rfl (tlt hc2).1 (by decide) (by decide) ?_
        show Steps p.tables e below (s₁.setTop (mkF m 7 #[.val (.ref a1), .val (.ref a2), .val (.int p3), .val (.int p4), .val (.int p5), .val (.int p6)] [])) _
        refine XS.aloadN X0.here hx rfl (hb hby d6_7) rfl rfl ?_
        show Steps p.tables e below (s₁.setTop (mkF m 8 #[.val (.ref a1), .val (.ref a2), .val (.int p3), .val (.int p4), .val (.int p5), .val (.int p6)] [(.ref a1)])) _
        refine XS.iloadN X0.here hx rfl (hb hby d6_8) rfl ?_
        show Steps p.tables e below (s₁.setTop (mkF m 9 #[.val (.ref a1), .val (.ref a2), .val (.int p3), .val (.int p4), .val (.int p5), .val (.int p6)] [(.int p3), (.ref a1)])) _
        exact k
      obtain ⟨cl4, Ar4, qc4, S4, M4, Ha4, Ga4⟩ := id V1
      have hin4 : ¬ (p3 < 0 ∨ cl4.slots.size ≤ (p3).toNatClampNeg) := inb_of S4 hx'
      have hat4 : cl4.slots[(p3).toNatClampNeg]? = some (.int x) := Ha4.at hin4 hxv
      have K5 : ∀ t, Steps p.tables e below (s₁.setTop (mkF m 10 #[.val (.ref a1), .val (.ref a2), .val (.int p3), .val (.int p4), .val (.int p5), .val (.int p6)] [(.int x)])) t → Steps p.tables e below G t := fun t k => K3 t (X0.caload hx (j := p3) (v := (.int x)) (by rw [e0]; exact Ar4.1) (State.isArrayOf_alike hZ.alike Ar4.2.1) Ar4.2.2 hin4 hat4 (g := (mkF m 9 #[.val (.ref a1), .val (.ref a2), .val (.int p3), .val (.int p4), .val (.int p5), .val (.int p6)] [(.int p3), (.ref a1)])) rfl rfl (hb hby d6_9) _ k)
      have K6 : ∀ t, Steps p.tables e below (s₁.setTop (mkF m 16 #[.val (.ref a1), .val (.ref a2), .val (.int p3), .val (.int p4), .val (.int p5), .val (.int p6)] [(.int p6), (.int p5), (.int p3), (.ref a2), (.int x)])) t → Steps p.tables e below G t := by
        intro t k
        refine K5 t ?_
        show Steps p.tables e below (s₁.setTop (mkF m 10 #[.val (.ref a1), .val (.ref a2), .val (.int p3), .val (.int p4), .val (.int p5), .val (.int p6)] [(.int x)])) _
        refine XS.aloadN X0.here hx rfl (hb hby d6_10) rfl rfl ?_
        show Steps p.tables e below (s₁.setTop (mkF m 11 #[.val (.ref a1), .val (.ref a2), .val (.int p3), .val (.int p4), .val (.int p5), .val (.int p6)] [(.ref a2), (.int x)])) _
        refine XS.iloadN X0.here hx rfl (hb hby d6_11) rfl ?_
        show Steps p.tables e below (s₁.setTop (mkF m 12 #[.val (.ref a1), .val (.ref a2), .val (.int p3), .val (.int p4), .val (.int p5), .val (.int p6)] [(.int p3), (.ref a2), (.int x)])) _
        refine XS.iload X0.here hx rfl (hb hby d6_12) rfl ?_
        show Steps p.tables e below (s₁.setTop (mkF m 14 #[.val (.ref a1), .val (.ref a2), .val (.int p3), .val (.int p4), .val (.int p5), .val (.int p6)] [(.int p5), (.int p3), (.ref a2), (.int x)])) _
        refine XS.iload X0.here hx rfl (hb hby d6_14) rfl ?_
        show Steps p.tables e below (s₁.setTop (mkF m 16 #[.val (.ref a1), .val (.ref a2), .val (.int p3), .val (.int p4), .val (.int p5), .val (.int p6)] [(.int p6), (.int p5), (.int p3), (.ref a2), (.int x)])) _
        exact k
      obtain ⟨_, _, ⟨T7, L7, kk7, nn7⟩, -, X7, ⟨Lc7, hQ7, lq7, yq7, zq7⟩, st7⟩ := Jvm.LawKit.callS X0 hx (y := (⟨"org/arborlog/pattern/LineTextDeletePinLaw", "expect", "([CIII)C"⟩ : MethodName)) hown (mvT hZ (hw _ (List.mem_of_getElem? (i := 59) rfl))) (mvT hZ (hw _ (List.mem_of_getElem? (i := 60) rfl))) (mvT hZ (hw _ (List.mem_of_getElem? (i := 36) rfl))) (mvT hZ (hw _ (List.mem_of_getElem? (i := 61) rfl))) (by decide) (backOf (W := 1) (rm12 l Z a0 hw [] a2 p3 p5 p6 k2 cs y h0 n0 Z0 V2 hy1 hy2) hZ (hw _ (List.mem_of_getElem? (i := 61) rfl)) (hw _ (List.mem_of_getElem? (i := 36) rfl)) (by decide) (by decide)) (g := (mkF m 16 #[.val (.ref a1), .val (.ref a2), .val (.int p3), .val (.int p4), .val (.int p5), .val (.int p6)] [(.int p6), (.int p5), (.int p3), (.ref a2), (.int x)])) rfl (by rw [hml]; rfl) (argsL := [(.ref a2), (.int p3), (.int p5), (.int p6)]) (rest := [(.int x)]) (lenOf pd_3 rfl) rfl (by show 2 * 0 + _ ≤ _; exact Nat.le_of_eq rfl) (hb hby d6_16) (fun _ _ => ⟨rfl, e0, (by decide : 0 + 0 ≤ _), (by decide : 0 + 0 ≤ _)⟩)
      dsimp only [Pt.U, Pt.locs, Pt.cells, Pt.slots] at X7 lq7 yq7 zq7 st7 hQ7
      subst lq7 yq7 zq7
      obtain ⟨rfl, Nq7, e7⟩ := hQ7
      have N8 := Fr.app N0 Nq7
      have K9 : ∀ t, Steps p.tables e below (T7.setTop (mkF m 19 #[.val (.ref a1), .val (.ref a2), .val (.int p3), .val (.int p4), .val (.int p5), .val (.int p6)] [(.int (nar .char y)), (.int x)])) t → Steps p.tables e below G t := fun t k => K6 t (st7 _ k)
      obtain ⟨fs, hr, hrun, hended, hW, hsame⟩ := X7.leave (v := some (.int (1 : Int32))) (fun h => by rw [Bd.returns] at h; cases h)
      have KF := K9
      rw [hG] at KF
      refine ⟨_, _, KF _ ?_, hrun, hended, _, _, rfl, ?_, ⟨_, rfl⟩, hW, hsame.mono (by decide) (by decide)⟩
      · show Steps p.tables e below (T7.setTop (mkF m 19 #[.val (.ref a1), .val (.ref a2), .val (.int p3), .val (.int p4), .val (.int p5), .val (.int p6)] [(.int (nar .char y)), (.int x)])) _
        refine XS.icmpNo X7.here hx rfl (hb hby d6_19) rfl (teq hxy).2 ?_
        show Steps p.tables e below (T7.setTop (mkF m 22 #[.val (.ref a1), .val (.ref a2), .val (.int p3), .val (.int p4), .val (.int p5), .val (.int p6)] [])) _
        refine XS.iconst X7.here hx rfl (hb hby d6_22) ?_
        show Steps p.tables e below (T7.setTop (mkF m 23 #[.val (.ref a1), .val (.ref a2), .val (.int p3), .val (.int p4), .val (.int p5), .val (.int p6)] [(.int (1 : Int32))])) _
        refine XS.goto X7.here hx rfl (pc0 := 23) (pc' := 27) rfl (hb hby d6_23) (by decide) (by decide) ?_
        show Steps p.tables e below (T7.setTop (mkF m 27 #[.val (.ref a1), .val (.ref a2), .val (.int p3), .val (.int p4), .val (.int p5), .val (.int p6)] [(.int (1 : Int32))])) _
        exact retN X7 hx (t := .boolean) Bd.returns (by simp) (hb hby d6_27) hr
      · show Q6 a1 a2 p3 p4 p5 p6 k1 k2 z vs cs h0 n0 _ T7.heap _
        rw [e7]
        exact ⟨rfl, N8, rfl⟩
    · obtain ⟨fs, hr, hrun, hended, hW, hsame⟩ := X0.leave (v := some (.int (1 : Int32))) (fun h => by rw [Bd.returns] at h; cases h)
      have KF := K1
      rw [hG] at KF
      refine ⟨_, _, KF _ ?_, hrun, hended, _, _, rfl, ?_, ⟨_, rfl⟩, hW, hsame.mono (by decide) (by decide)⟩
      · show Steps p.tables e below (s₁.setTop (mkF m 2 #[.val (.ref a1), .val (.ref a2), .val (.int p3), .val (.int p4), .val (.int p5), .val (.int p6)] [(.int p4), (.int p3)])) _
        refine XS.icmpNo X0.here hx rfl (hb hby d6_2) rfl (flt hc2).1 ?_
        show Steps p.tables e below (s₁.setTop (mkF m 5 #[.val (.ref a1), .val (.ref a2), .val (.int p3), .val (.int p4), .val (.int p5), .val (.int p6)] [])) _
        refine XS.iconst X0.here hx rfl (hb hby d6_5) ?_
        show Steps p.tables e below (s₁.setTop (mkF m 6 #[.val (.ref a1), .val (.ref a2), .val (.int p3), .val (.int p4), .val (.int p5), .val (.int p6)] [(.int (1 : Int32))])) _
        exact retN X0 hx (t := .boolean) Bd.returns (by simp) (hb hby d6_6) hr
      · show Q6 a1 a2 p3 p4 p5 p6 k1 k2 z vs cs h0 n0 _ s₁.heap _
        rw [e0]
        exact ⟨rfl, N0, rfl⟩
def Q0 (n0 : Nat) (v : Option Value) (h : Heap) (L : List Loc) : Prop := v = some (.int 1) ∧ Fr n0 L
theorem pd_4 : parseMethodDescriptor "(II)V" = some ⟨[.int, .int], none⟩ := by decide +kernel
theorem pd_5 : parseMethodDescriptor "()I" = some ⟨[], some .int⟩ := by decide +kernel
theorem pd_6 : parseMethodDescriptor "()[C" = some ⟨[], some (.array .char)⟩ := by decide +kernel
theorem pd_7 : parseMethodDescriptor "([C[CIIII)Z" = some ⟨[(.array .char), (.array .char), .int, .int, .int, .int], some .boolean⟩ := by decide +kernel
theorem pd_8 : parseMethodDescriptor "(C)Lorg/arborlog/pattern/LineText;" = some ⟨[.char], some (.object "org/arborlog/pattern/LineText")⟩ := by decide +kernel
theorem ef_rm0 (m : MethodId) (x0 : Int32) (x1 : Int32) (x2 : Int32) (x3 : Int32) (x4 : Int32) (x5 : Int32) : entryFrame m #[(.int x0), (.int x1), (.int x2), (.int x3), (.int x4), (.int x5)] maxLocals = mkF m 0 #[.val (.int x0), .val (.int x1), .val (.int x2), .val (.int x3), .val (.int x4), .val (.int x5), .unset, .unset, .unset, .unset, .unset, .unset, .unset] [] := by first | (simp [entryFrame, mkF, argsToLocals, Value.category, maxLocals]; done) | rfl
set_option maxRecDepth 65536 in
set_option maxHeartbeats 40000000 in
theorem rm0 (l : Launch) (Z : State) (a0 : Array Value) (hw : ∀ d ∈ tables_1, d.before a0 Z = true) (ws : List Jvm.Cond) (p1 p2 p3 p4 p5 p6 : Int32) (h0 : Heap) (n0 : Nat) (Z0 : n0 ≤ h0.size) :
    MetFree l x (head1 (Jvm.Cond.code x code maxLocals ret :: ws) room_1) (fun a U => a = #[(.int p1), (.int p2), (.int p3), (.int p4), (.int p5), (.int p6)] ∧ Z.Warmed39 U.vm ∧ U.heap = h0) (fun _ _ _ _ _ => True) (fun _ U o U' => ∃ v L, o = .returned v ∧ Q0 n0 v U'.heap L ∧ FrameEnd U o U' L room_1.cells room_1.slots) := by
  refine MetFree.of_bodySF (plainFor_of_name pn_org_arborlog_pattern_LineTextDeletePinLaw) hisR ?_
  intro p e s m args below meth c s₁ Bd hml0 hP hK
  obtain ⟨rfl, hZ, hh⟩ := hP
  have hx := Bd.exec
  have hby := Bd.bytes
  have hml : c.maxLocals = 13 := hml0
  have hown : s.vm.findClass "org/arborlog/pattern/LineTextDeletePinLaw" = some m.cls := findClass_of_methodNamed Bd.named
  have hnm := (name_of_methodNamed Bd.named Bd.method).1
  have X0 : Stand p l e room_1 s m #[(.int p1), (.int p2), (.int p3), (.int p4), (.int p5), (.int p6)] below meth c s₁ [] 0 0 := Stand.of_body Bd
  have e0 : s₁.heap = h0 := by rw [← hh, Bd.state]; rfl
  have N0 := Fr.nil n0
  have KP0 : Keep h0 h0 [] := Keep.refl h0 _
  obtain ⟨G, hG⟩ : ∃ G : State, G = s₁.setTop (entryFrame m #[(.int p1), (.int p2), (.int p3), (.int p4), (.int p5), (.int p6)] maxLocals) := ⟨_, rfl⟩
  have pre0 : ∀ t, Steps p.tables e below (s₁.setTop (mkF m 0 #[.val (.int p1), .val (.int p2), .val (.int p3), .val (.int p4), .val (.int p5), .val (.int p6), .unset, .unset, .unset, .unset, .unset, .unset, .unset] [])) t → Steps p.tables e below G t := fun t k => hG ▸ castTop (ef_rm0 m p1 p2 p3 p4 p5 p6) k
  have K1 : ∀ t, Steps p.tables e below (s₁.setTop (mkF m 9 #[.val (.int p1), .val (.int p2), .val (.int p3), .val (.int p4), .val (.int p5), .val (.int p6), .val (.int ((p1 &&& (2147483647 : Int32)) % (5 : Int32))), .unset, .unset, .unset, .unset, .unset, .unset] [(.int (4 : Int32))])) t → Steps p.tables e below G t := by
    intro t k
    refine pre0 t ?_
    show Steps p.tables e below (s₁.setTop (mkF m 0 #[.val (.int p1), .val (.int p2), .val (.int p3), .val (.int p4), .val (.int p5), .val (.int p6), .unset, .unset, .unset, .unset, .unset, .unset, .unset] [])) _
    refine XS.iloadN X0.here hx rfl (hb hby at_0) rfl ?_
    show Steps p.tables e below (s₁.setTop (mkF m 1 #[.val (.int p1), .val (.int p2), .val (.int p3), .val (.int p4), .val (.int p5), .val (.int p6), .unset, .unset, .unset, .unset, .unset, .unset, .unset] [(.int p1)])) _
    refine X0.ldcInt hx hown (mvT hZ (hw _ (List.mem_of_getElem? (i := 0) rfl))) (g := (mkF m 1 #[.val (.int p1), .val (.int p2), .val (.int p3), .val (.int p4), .val (.int p5), .val (.int p6), .unset, .unset, .unset, .unset, .unset, .unset, .unset] [(.int p1)])) rfl (hb hby at_1) _ ?_
    show Steps p.tables e below (s₁.setTop (mkF m 3 #[.val (.int p1), .val (.int p2), .val (.int p3), .val (.int p4), .val (.int p5), .val (.int p6), .unset, .unset, .unset, .unset, .unset, .unset, .unset] [(.int (2147483647 : Int32)), (.int p1)])) _
    refine XS.iand X0.here hx rfl (hb hby at_3) rfl ?_
    show Steps p.tables e below (s₁.setTop (mkF m 4 #[.val (.int p1), .val (.int p2), .val (.int p3), .val (.int p4), .val (.int p5), .val (.int p6), .unset, .unset, .unset, .unset, .unset, .unset, .unset] [(.int (p1 &&& (2147483647 : Int32)))])) _
    refine XS.iconst X0.here hx rfl (hb hby at_4) ?_
    show Steps p.tables e below (s₁.setTop (mkF m 5 #[.val (.int p1), .val (.int p2), .val (.int p3), .val (.int p4), .val (.int p5), .val (.int p6), .unset, .unset, .unset, .unset, .unset, .unset, .unset] [(.int (5 : Int32)), (.int (p1 &&& (2147483647 : Int32)))])) _
    refine iremM X0 hx rfl (hb hby at_5) rfl (by decide) ?_
    show Steps p.tables e below (s₁.setTop (mkF m 6 #[.val (.int p1), .val (.int p2), .val (.int p3), .val (.int p4), .val (.int p5), .val (.int p6), .unset, .unset, .unset, .unset, .unset, .unset, .unset] [(.int ((p1 &&& (2147483647 : Int32)) % (5 : Int32)))])) _
    refine XS.istore X0.here hx rfl (hb hby at_6) rfl (l' := #[.val (.int p1), .val (.int p2), .val (.int p3), .val (.int p4), .val (.int p5), .val (.int p6), .val (.int ((p1 &&& (2147483647 : Int32)) % (5 : Int32))), .unset, .unset, .unset, .unset, .unset, .unset]) rfl ?_
    show Steps p.tables e below (s₁.setTop (mkF m 8 #[.val (.int p1), .val (.int p2), .val (.int p3), .val (.int p4), .val (.int p5), .val (.int p6), .val (.int ((p1 &&& (2147483647 : Int32)) % (5 : Int32))), .unset, .unset, .unset, .unset, .unset, .unset] [])) _
    refine XS.iconst X0.here hx rfl (hb hby at_8) ?_
    show Steps p.tables e below (s₁.setTop (mkF m 9 #[.val (.int p1), .val (.int p2), .val (.int p3), .val (.int p4), .val (.int p5), .val (.int p6), .val (.int ((p1 &&& (2147483647 : Int32)) % (5 : Int32))), .unset, .unset, .unset, .unset, .unset, .unset] [(.int (4 : Int32))])) _
    exact k
  obtain ⟨T2, h2, kn2, X2, e2, E2, A2, st2⟩ := newP X0 hx hZ (hw _ (List.mem_of_getElem? (i := 1) rfl)) e0 (g := (mkF m 9 #[.val (.int p1), .val (.int p2), .val (.int p3), .val (.int p4), .val (.int p5), .val (.int p6), .val (.int ((p1 &&& (2147483647 : Int32)) % (5 : Int32))), .unset, .unset, .unset, .unset, .unset, .unset] [(.int (4 : Int32))])) rfl (hb hby at_9) rfl (by decide) (cap := 4) (by decide) (by decide) (by decide) (by decide)
  obtain ⟨b2, g2⟩ : ∃ z, z = h0.size := ⟨_, rfl⟩
  rw [← g2] at A2 st2
  have g_b2 : n0 ≤ b2 := Nat.le_trans Z0 (Nat.le_of_eq g2.symm)
  have sz_b2 : h0.size ≤ b2 := Nat.le_trans KP0.1 (Nat.le_of_eq g2.symm)
  have Z3 : n0 ≤ h2.size := Nat.le_trans Z0 E2.1
  have KP4 : Keep h0 h2 [] := KP0.ext E2
  have K5 : ∀ t, Steps p.tables e below (T2.setTop (mkF m 11 #[.val (.int p1), .val (.int p2), .val (.int p3), .val (.int p4), .val (.int p5), .val (.int p6), .val (.int ((p1 &&& (2147483647 : Int32)) % (5 : Int32))), .unset, .unset, .unset, .unset, .unset, .unset] [(.ref b2)])) t → Steps p.tables e below G t := fun t k => K1 t (st2 t k)
  have V2 : Arv Z h2 b2 kn2 .char (4 : Int32) [(.int (0 : Int32)), (.int (0 : Int32)), (.int (0 : Int32)), (.int (0 : Int32))] (.int (0 : Int32)) := (Arv.new A2 (by decide)).pad (pad_rep [] (.int (0 : Int32)) 4)
  have K6 : ∀ t, Steps p.tables e below (T2.setTop (mkF m 18 #[.val (.int p1), .val (.int p2), .val (.int p3), .val (.int p4), .val (.int p5), .val (.int p6), .val (.int ((p1 &&& (2147483647 : Int32)) % (5 : Int32))), .val (.ref b2), .unset, .unset, .unset, .unset, .unset] [(.int (p4.toUInt32.toUInt16.toUInt32.toInt32)), (.int (0 : Int32)), (.ref b2)])) t → Steps p.tables e below G t := by
    intro t k
    refine K5 t ?_
    show Steps p.tables e below (T2.setTop (mkF m 11 #[.val (.int p1), .val (.int p2), .val (.int p3), .val (.int p4), .val (.int p5), .val (.int p6), .val (.int ((p1 &&& (2147483647 : Int32)) % (5 : Int32))), .unset, .unset, .unset, .unset, .unset, .unset] [(.ref b2)])) _
    refine XS.astore X2.here hx rfl (hb hby at_11) rfl rfl (l' := #[.val (.int p1), .val (.int p2), .val (.int p3), .val (.int p4), .val (.int p5), .val (.int p6), .val (.int ((p1 &&& (2147483647 : Int32)) % (5 : Int32))), .val (.ref b2), .unset, .unset, .unset, .unset, .unset]) rfl ?_
    show Steps p.tables e below (T2.setTop (mkF m 13 #[.val (.int p1), .val (.int p2), .val (.int p3), .val (.int p4), .val (.int p5), .val (.int p6), .val (.int ((p1 &&& (2147483647 : Int32)) % (5 : Int32))), .val (.ref b2), .unset, .unset, .unset, .unset, .unset] [])) _
    refine XS.aload X2.here hx rfl (hb hby at_13) rfl rfl ?_
    show Steps p.tables e below (T2.setTop (mkF m 15 #[.val (.int p1), .val (.int p2), .val (.int p3), .val (.int p4), .val (.int p5), .val (.int p6), .val (.int ((p1 &&& (2147483647 : Int32)) % (5 : Int32))), .val (.ref b2), .unset, .unset, .unset, .unset, .unset] [(.ref b2)])) _
    refine XS.iconst X2.here hx rfl (hb hby at_15) ?_
    show Steps p.tables e below (T2.setTop (mkF m 16 #[.val (.int p1), .val (.int p2), .val (.int p3), .val (.int p4), .val (.int p5), .val (.int p6), .val (.int ((p1 &&& (2147483647 : Int32)) % (5 : Int32))), .val (.ref b2), .unset, .unset, .unset, .unset, .unset] [(.int (0 : Int32)), (.ref b2)])) _
    refine XS.iloadN X2.here hx rfl (hb hby at_16) rfl ?_
    show Steps p.tables e below (T2.setTop (mkF m 17 #[.val (.int p1), .val (.int p2), .val (.int p3), .val (.int p4), .val (.int p5), .val (.int p6), .val (.int ((p1 &&& (2147483647 : Int32)) % (5 : Int32))), .val (.ref b2), .unset, .unset, .unset, .unset, .unset] [(.int p4), (.int (0 : Int32)), (.ref b2)])) _
    refine XS.i2c X2.here hx rfl (hb hby at_17) rfl ?_
    show Steps p.tables e below (T2.setTop (mkF m 18 #[.val (.int p1), .val (.int p2), .val (.int p3), .val (.int p4), .val (.int p5), .val (.int p6), .val (.int ((p1 &&& (2147483647 : Int32)) % (5 : Int32))), .val (.ref b2), .unset, .unset, .unset, .unset, .unset] [(.int (p4.toUInt32.toUInt16.toUInt32.toInt32)), (.int (0 : Int32)), (.ref b2)])) _
    exact k
  obtain ⟨cl7, Ar7, qc7, S7, M7, Ha7, Ga7⟩ := id V2
  have hin7 : ¬ ((0 : Int32) < 0 ∨ cl7.slots.size ≤ ((0 : Int32)).toNatClampNeg) := inb_of S7 ⟨by decide, by decide⟩
  obtain ⟨T7, h7, X7, e7, W7, st7⟩ := stC X2 hx hZ e2 Ar7 (j := (0 : Int32)) hin7 (g := (mkF m 18 #[.val (.int p1), .val (.int p2), .val (.int p3), .val (.int p4), .val (.int p5), .val (.int p6), .val (.int ((p1 &&& (2147483647 : Int32)) % (5 : Int32))), .val (.ref b2), .unset, .unset, .unset, .unset, .unset] [(.int (p4.toUInt32.toUInt16.toUInt32.toInt32)), (.int (0 : Int32)), (.ref b2)])) rfl rfl (hb hby at_18)
  have V7 : Arv Z h7 b2 kn2 .char (4 : Int32) [(.int (nar .char (p4.toUInt32.toUInt16.toUInt32.toInt32))), (.int (0 : Int32)), (.int (0 : Int32)), (.int (0 : Int32))] (.int (0 : Int32)) := Arv.set Ar7 qc7 S7 M7 Ha7 Ga7 (fits_nar_char _) W7 0 rfl (Nat.le_of_ble_eq_true rfl)
  have K8 : ∀ t, Steps p.tables e below (T7.setTop (mkF m 19 #[.val (.int p1), .val (.int p2), .val (.int p3), .val (.int p4), .val (.int p5), .val (.int p6), .val (.int ((p1 &&& (2147483647 : Int32)) % (5 : Int32))), .val (.ref b2), .unset, .unset, .unset, .unset, .unset] [])) t → Steps p.tables e below G t := fun t k => K6 t (st7 t k)
  have Z9 : n0 ≤ h7.size := Nat.le_trans Z3 (Keep.of_wr W7).1
  have KP10 : Keep h0 h7 [] := KP4.wr W7 (Or.inr sz_b2)
  have N11 := Fr.snoc X7 N0 g_b2
  have K12 : ∀ t, Steps p.tables e below (T7.setTop (mkF m 27 #[.val (.int p1), .val (.int p2), .val (.int p3), .val (.int p4), .val (.int p5), .val (.int p6), .val (.int ((p1 &&& (2147483647 : Int32)) % (5 : Int32))), .val (.ref b2), .unset, .unset, .unset, .unset, .unset] [(.int (((p4.toUInt32 >>> ((16 : Int32) &&& 31).toUInt32).toInt32).toUInt32.toUInt16.toUInt32.toInt32)), (.int (1 : Int32)), (.ref b2)])) t → Steps p.tables e below G t := by
    intro t k
    refine K8 t ?_
    show Steps p.tables e below (T7.setTop (mkF m 19 #[.val (.int p1), .val (.int p2), .val (.int p3), .val (.int p4), .val (.int p5), .val (.int p6), .val (.int ((p1 &&& (2147483647 : Int32)) % (5 : Int32))), .val (.ref b2), .unset, .unset, .unset, .unset, .unset] [])) _
    refine XS.aload X7.here hx rfl (hb hby at_19) rfl rfl ?_
    show Steps p.tables e below (T7.setTop (mkF m 21 #[.val (.int p1), .val (.int p2), .val (.int p3), .val (.int p4), .val (.int p5), .val (.int p6), .val (.int ((p1 &&& (2147483647 : Int32)) % (5 : Int32))), .val (.ref b2), .unset, .unset, .unset, .unset, .unset] [(.ref b2)])) _
    refine XS.iconst X7.here hx rfl (hb hby at_21) ?_
    show Steps p.tables e below (T7.setTop (mkF m 22 #[.val (.int p1), .val (.int p2), .val (.int p3), .val (.int p4), .val (.int p5), .val (.int p6), .val (.int ((p1 &&& (2147483647 : Int32)) % (5 : Int32))), .val (.ref b2), .unset, .unset, .unset, .unset, .unset] [(.int (1 : Int32)), (.ref b2)])) _
    refine XS.iloadN X7.here hx rfl (hb hby at_22) rfl ?_
    show Steps p.tables e below (T7.setTop (mkF m 23 #[.val (.int p1), .val (.int p2), .val (.int p3), .val (.int p4), .val (.int p5), .val (.int p6), .val (.int ((p1 &&& (2147483647 : Int32)) % (5 : Int32))), .val (.ref b2), .unset, .unset, .unset, .unset, .unset] [(.int p4), (.int (1 : Int32)), (.ref b2)])) _
    refine XS.bipush X7.here hx rfl (hb hby at_23) ?_
    show Steps p.tables e below (T7.setTop (mkF m 25 #[.val (.int p1), .val (.int p2), .val (.int p3), .val (.int p4), .val (.int p5), .val (.int p6), .val (.int ((p1 &&& (2147483647 : Int32)) % (5 : Int32))), .val (.ref b2), .unset, .unset, .unset, .unset, .unset] [(.int (16 : Int32)), (.int p4), (.int (1 : Int32)), (.ref b2)])) _
    refine XS.iushr X7.here hx rfl (hb hby at_25) rfl ?_
    show Steps p.tables e below (T7.setTop (mkF m 26 #[.val (.int p1), .val (.int p2), .val (.int p3), .val (.int p4), .val (.int p5), .val (.int p6), .val (.int ((p1 &&& (2147483647 : Int32)) % (5 : Int32))), .val (.ref b2), .unset, .unset, .unset, .unset, .unset] [(.int ((p4.toUInt32 >>> ((16 : Int32) &&& 31).toUInt32).toInt32)), (.int (1 : Int32)), (.ref b2)])) _
    refine XS.i2c X7.here hx rfl (hb hby at_26) rfl ?_
    show Steps p.tables e below (T7.setTop (mkF m 27 #[.val (.int p1), .val (.int p2), .val (.int p3), .val (.int p4), .val (.int p5), .val (.int p6), .val (.int ((p1 &&& (2147483647 : Int32)) % (5 : Int32))), .val (.ref b2), .unset, .unset, .unset, .unset, .unset] [(.int (((p4.toUInt32 >>> ((16 : Int32) &&& 31).toUInt32).toInt32).toUInt32.toUInt16.toUInt32.toInt32)), (.int (1 : Int32)), (.ref b2)])) _
    exact k
  obtain ⟨cl13, Ar13, qc13, S13, M13, Ha13, Ga13⟩ := id V7
  have hin13 : ¬ ((1 : Int32) < 0 ∨ cl13.slots.size ≤ ((1 : Int32)).toNatClampNeg) := inb_of S13 ⟨by decide, by decide⟩
  obtain ⟨T13, h13, X13, e13, W13, st13⟩ := stC X7 hx hZ e7 Ar13 (j := (1 : Int32)) hin13 (g := (mkF m 27 #[.val (.int p1), .val (.int p2), .val (.int p3), .val (.int p4), .val (.int p5), .val (.int p6), .val (.int ((p1 &&& (2147483647 : Int32)) % (5 : Int32))), .val (.ref b2), .unset, .unset, .unset, .unset, .unset] [(.int (((p4.toUInt32 >>> ((16 : Int32) &&& 31).toUInt32).toInt32).toUInt32.toUInt16.toUInt32.toInt32)), (.int (1 : Int32)), (.ref b2)])) rfl rfl (hb hby at_27)
  have V13 : Arv Z h13 b2 kn2 .char (4 : Int32) [(.int (nar .char (p4.toUInt32.toUInt16.toUInt32.toInt32))), (.int (nar .char (((p4.toUInt32 >>> ((16 : Int32) &&& 31).toUInt32).toInt32).toUInt32.toUInt16.toUInt32.toInt32))), (.int (0 : Int32)), (.int (0 : Int32))] (.int (0 : Int32)) := Arv.set Ar13 qc13 S13 M13 Ha13 Ga13 (fits_nar_char _) W13 1 rfl (Nat.le_of_ble_eq_true rfl)
  have K14 : ∀ t, Steps p.tables e below (T13.setTop (mkF m 28 #[.val (.int p1), .val (.int p2), .val (.int p3), .val (.int p4), .val (.int p5), .val (.int p6), .val (.int ((p1 &&& (2147483647 : Int32)) % (5 : Int32))), .val (.ref b2), .unset, .unset, .unset, .unset, .unset] [])) t → Steps p.tables e below G t := fun t k => K12 t (st13 t k)
  have Z15 : n0 ≤ h13.size := Nat.le_trans Z9 (Keep.of_wr W13).1
  have KP16 : Keep h0 h13 [] := KP10.wr W13 (Or.inr sz_b2)
  have N17 := Fr.snoc X13 N11 g_b2
  have K18 : ∀ t, Steps p.tables e below (T13.setTop (mkF m 34 #[.val (.int p1), .val (.int p2), .val (.int p3), .val (.int p4), .val (.int p5), .val (.int p6), .val (.int ((p1 &&& (2147483647 : Int32)) % (5 : Int32))), .val (.ref b2), .unset, .unset, .unset, .unset, .unset] [(.int (p5.toUInt32.toUInt16.toUInt32.toInt32)), (.int (2 : Int32)), (.ref b2)])) t → Steps p.tables e below G t := by
    intro t k
    refine K14 t ?_
    show Steps p.tables e below (T13.setTop (mkF m 28 #[.val (.int p1), .val (.int p2), .val (.int p3), .val (.int p4), .val (.int p5), .val (.int p6), .val (.int ((p1 &&& (2147483647 : Int32)) % (5 : Int32))), .val (.ref b2), .unset, .unset, .unset, .unset, .unset] [])) _
    refine XS.aload X13.here hx rfl (hb hby at_28) rfl rfl ?_
    show Steps p.tables e below (T13.setTop (mkF m 30 #[.val (.int p1), .val (.int p2), .val (.int p3), .val (.int p4), .val (.int p5), .val (.int p6), .val (.int ((p1 &&& (2147483647 : Int32)) % (5 : Int32))), .val (.ref b2), .unset, .unset, .unset, .unset, .unset] [(.ref b2)])) _
    refine XS.iconst X13.here hx rfl (hb hby at_30) ?_
    show Steps p.tables e below (T13.setTop (mkF m 31 #[.val (.int p1), .val (.int p2), .val (.int p3), .val (.int p4), .val (.int p5), .val (.int p6), .val (.int ((p1 &&& (2147483647 : Int32)) % (5 : Int32))), .val (.ref b2), .unset, .unset, .unset, .unset, .unset] [(.int (2 : Int32)), (.ref b2)])) _
    refine XS.iload X13.here hx rfl (hb hby at_31) rfl ?_
    show Steps p.tables e below (T13.setTop (mkF m 33 #[.val (.int p1), .val (.int p2), .val (.int p3), .val (.int p4), .val (.int p5), .val (.int p6), .val (.int ((p1 &&& (2147483647 : Int32)) % (5 : Int32))), .val (.ref b2), .unset, .unset, .unset, .unset, .unset] [(.int p5), (.int (2 : Int32)), (.ref b2)])) _
    refine XS.i2c X13.here hx rfl (hb hby at_33) rfl ?_
    show Steps p.tables e below (T13.setTop (mkF m 34 #[.val (.int p1), .val (.int p2), .val (.int p3), .val (.int p4), .val (.int p5), .val (.int p6), .val (.int ((p1 &&& (2147483647 : Int32)) % (5 : Int32))), .val (.ref b2), .unset, .unset, .unset, .unset, .unset] [(.int (p5.toUInt32.toUInt16.toUInt32.toInt32)), (.int (2 : Int32)), (.ref b2)])) _
    exact k
  obtain ⟨cl19, Ar19, qc19, S19, M19, Ha19, Ga19⟩ := id V13
  have hin19 : ¬ ((2 : Int32) < 0 ∨ cl19.slots.size ≤ ((2 : Int32)).toNatClampNeg) := inb_of S19 ⟨by decide, by decide⟩
  obtain ⟨T19, h19, X19, e19, W19, st19⟩ := stC X13 hx hZ e13 Ar19 (j := (2 : Int32)) hin19 (g := (mkF m 34 #[.val (.int p1), .val (.int p2), .val (.int p3), .val (.int p4), .val (.int p5), .val (.int p6), .val (.int ((p1 &&& (2147483647 : Int32)) % (5 : Int32))), .val (.ref b2), .unset, .unset, .unset, .unset, .unset] [(.int (p5.toUInt32.toUInt16.toUInt32.toInt32)), (.int (2 : Int32)), (.ref b2)])) rfl rfl (hb hby at_34)
  have V19 : Arv Z h19 b2 kn2 .char (4 : Int32) [(.int (nar .char (p4.toUInt32.toUInt16.toUInt32.toInt32))), (.int (nar .char (((p4.toUInt32 >>> ((16 : Int32) &&& 31).toUInt32).toInt32).toUInt32.toUInt16.toUInt32.toInt32))), (.int (nar .char (p5.toUInt32.toUInt16.toUInt32.toInt32))), (.int (0 : Int32))] (.int (0 : Int32)) := Arv.set Ar19 qc19 S19 M19 Ha19 Ga19 (fits_nar_char _) W19 2 rfl (Nat.le_of_ble_eq_true rfl)
  have K20 : ∀ t, Steps p.tables e below (T19.setTop (mkF m 35 #[.val (.int p1), .val (.int p2), .val (.int p3), .val (.int p4), .val (.int p5), .val (.int p6), .val (.int ((p1 &&& (2147483647 : Int32)) % (5 : Int32))), .val (.ref b2), .unset, .unset, .unset, .unset, .unset] [])) t → Steps p.tables e below G t := fun t k => K18 t (st19 t k)
  have Z21 : n0 ≤ h19.size := Nat.le_trans Z15 (Keep.of_wr W19).1
  have KP22 : Keep h0 h19 [] := KP16.wr W19 (Or.inr sz_b2)
  have N23 := Fr.snoc X19 N17 g_b2
  have K24 : ∀ t, Steps p.tables e below (T19.setTop (mkF m 44 #[.val (.int p1), .val (.int p2), .val (.int p3), .val (.int p4), .val (.int p5), .val (.int p6), .val (.int ((p1 &&& (2147483647 : Int32)) % (5 : Int32))), .val (.ref b2), .unset, .unset, .unset, .unset, .unset] [(.int (((p5.toUInt32 >>> ((16 : Int32) &&& 31).toUInt32).toInt32).toUInt32.toUInt16.toUInt32.toInt32)), (.int (3 : Int32)), (.ref b2)])) t → Steps p.tables e below G t := by
    intro t k
    refine K20 t ?_
    show Steps p.tables e below (T19.setTop (mkF m 35 #[.val (.int p1), .val (.int p2), .val (.int p3), .val (.int p4), .val (.int p5), .val (.int p6), .val (.int ((p1 &&& (2147483647 : Int32)) % (5 : Int32))), .val (.ref b2), .unset, .unset, .unset, .unset, .unset] [])) _
    refine XS.aload X19.here hx rfl (hb hby at_35) rfl rfl ?_
    show Steps p.tables e below (T19.setTop (mkF m 37 #[.val (.int p1), .val (.int p2), .val (.int p3), .val (.int p4), .val (.int p5), .val (.int p6), .val (.int ((p1 &&& (2147483647 : Int32)) % (5 : Int32))), .val (.ref b2), .unset, .unset, .unset, .unset, .unset] [(.ref b2)])) _
    refine XS.iconst X19.here hx rfl (hb hby at_37) ?_
    show Steps p.tables e below (T19.setTop (mkF m 38 #[.val (.int p1), .val (.int p2), .val (.int p3), .val (.int p4), .val (.int p5), .val (.int p6), .val (.int ((p1 &&& (2147483647 : Int32)) % (5 : Int32))), .val (.ref b2), .unset, .unset, .unset, .unset, .unset] [(.int (3 : Int32)), (.ref b2)])) _
    refine XS.iload X19.here hx rfl (hb hby at_38) rfl ?_
    show Steps p.tables e below (T19.setTop (mkF m 40 #[.val (.int p1), .val (.int p2), .val (.int p3), .val (.int p4), .val (.int p5), .val (.int p6), .val (.int ((p1 &&& (2147483647 : Int32)) % (5 : Int32))), .val (.ref b2), .unset, .unset, .unset, .unset, .unset] [(.int p5), (.int (3 : Int32)), (.ref b2)])) _
    refine XS.bipush X19.here hx rfl (hb hby at_40) ?_
    show Steps p.tables e below (T19.setTop (mkF m 42 #[.val (.int p1), .val (.int p2), .val (.int p3), .val (.int p4), .val (.int p5), .val (.int p6), .val (.int ((p1 &&& (2147483647 : Int32)) % (5 : Int32))), .val (.ref b2), .unset, .unset, .unset, .unset, .unset] [(.int (16 : Int32)), (.int p5), (.int (3 : Int32)), (.ref b2)])) _
    refine XS.iushr X19.here hx rfl (hb hby at_42) rfl ?_
    show Steps p.tables e below (T19.setTop (mkF m 43 #[.val (.int p1), .val (.int p2), .val (.int p3), .val (.int p4), .val (.int p5), .val (.int p6), .val (.int ((p1 &&& (2147483647 : Int32)) % (5 : Int32))), .val (.ref b2), .unset, .unset, .unset, .unset, .unset] [(.int ((p5.toUInt32 >>> ((16 : Int32) &&& 31).toUInt32).toInt32)), (.int (3 : Int32)), (.ref b2)])) _
    refine XS.i2c X19.here hx rfl (hb hby at_43) rfl ?_
    show Steps p.tables e below (T19.setTop (mkF m 44 #[.val (.int p1), .val (.int p2), .val (.int p3), .val (.int p4), .val (.int p5), .val (.int p6), .val (.int ((p1 &&& (2147483647 : Int32)) % (5 : Int32))), .val (.ref b2), .unset, .unset, .unset, .unset, .unset] [(.int (((p5.toUInt32 >>> ((16 : Int32) &&& 31).toUInt32).toInt32).toUInt32.toUInt16.toUInt32.toInt32)), (.int (3 : Int32)), (.ref b2)])) _
    exact k
  obtain ⟨cl25, Ar25, qc25, S25, M25, Ha25, Ga25⟩ := id V19
  have hin25 : ¬ ((3 : Int32) < 0 ∨ cl25.slots.size ≤ ((3 : Int32)).toNatClampNeg) := inb_of S25 ⟨by decide, by decide⟩
  obtain ⟨T25, h25, X25, e25, W25, st25⟩ := stC X19 hx hZ e19 Ar25 (j := (3 : Int32)) hin25 (g := (mkF m 44 #[.val (.int p1), .val (.int p2), .val (.int p3), .val (.int p4), .val (.int p5), .val (.int p6), .val (.int ((p1 &&& (2147483647 : Int32)) % (5 : Int32))), .val (.ref b2), .unset, .unset, .unset, .unset, .unset] [(.int (((p5.toUInt32 >>> ((16 : Int32) &&& 31).toUInt32).toInt32).toUInt32.toUInt16.toUInt32.toInt32)), (.int (3 : Int32)), (.ref b2)])) rfl rfl (hb hby at_44)
  have V25 : Arv Z h25 b2 kn2 .char (4 : Int32) [(.int (nar .char (p4.toUInt32.toUInt16.toUInt32.toInt32))), (.int (nar .char (((p4.toUInt32 >>> ((16 : Int32) &&& 31).toUInt32).toInt32).toUInt32.toUInt16.toUInt32.toInt32))), (.int (nar .char (p5.toUInt32.toUInt16.toUInt32.toInt32))), (.int (nar .char (((p5.toUInt32 >>> ((16 : Int32) &&& 31).toUInt32).toInt32).toUInt32.toUInt16.toUInt32.toInt32)))] (.int (0 : Int32)) := Arv.set Ar25 qc25 S25 M25 Ha25 Ga25 (fits_nar_char _) W25 3 rfl (Nat.le_of_ble_eq_true rfl)
  have K26 : ∀ t, Steps p.tables e below (T25.setTop (mkF m 45 #[.val (.int p1), .val (.int p2), .val (.int p3), .val (.int p4), .val (.int p5), .val (.int p6), .val (.int ((p1 &&& (2147483647 : Int32)) % (5 : Int32))), .val (.ref b2), .unset, .unset, .unset, .unset, .unset] [])) t → Steps p.tables e below G t := fun t k => K24 t (st25 t k)
  have Z27 : n0 ≤ h25.size := Nat.le_trans Z21 (Keep.of_wr W25).1
  have KP28 : Keep h0 h25 [] := KP22.wr W25 (Or.inr sz_b2)
  have N29 := Fr.snoc X25 N23 g_b2
  obtain ⟨T30, h30, X30, e30, E30, A30, D30, -, st30⟩ := newO X25 hx hZ hown (hw _ (List.mem_of_getElem? (i := 2) rfl)) (hw _ (List.mem_of_getElem? (i := 3) rfl)) (hw _ (List.mem_of_getElem? (i := 4) rfl)) e25 (g := (mkF m 45 #[.val (.int p1), .val (.int p2), .val (.int p3), .val (.int p4), .val (.int p5), .val (.int p6), .val (.int ((p1 &&& (2147483647 : Int32)) % (5 : Int32))), .val (.ref b2), .unset, .unset, .unset, .unset, .unset] [])) rfl (hb hby at_45) (by decide) (by decide)
  obtain ⟨b30, g30⟩ : ∃ z, z = h25.size := ⟨_, rfl⟩
  rw [← g30] at A30 D30 st30
  have ne_b2_b30 : b2 ≠ b30 := Nat.ne_of_lt (Nat.lt_of_lt_of_le V25.lt (Nat.le_of_eq g30.symm))
  have g_b30 : n0 ≤ b30 := Nat.le_trans Z27 (Nat.le_of_eq g30.symm)
  have sz_b30 : h0.size ≤ b30 := Nat.le_trans KP28.1 (Nat.le_of_eq g30.symm)
  have f31 := V25.ext E30
  have Z32 : n0 ≤ h30.size := Nat.le_trans Z27 E30.1
  have KP33 : Keep h0 h30 [] := KP28.ext E30
  have K34 : ∀ t, Steps p.tables e below (T30.setTop (mkF m 48 #[.val (.int p1), .val (.int p2), .val (.int p3), .val (.int p4), .val (.int p5), .val (.int p6), .val (.int ((p1 &&& (2147483647 : Int32)) % (5 : Int32))), .val (.ref b2), .unset, .unset, .unset, .unset, .unset] [(.ref b30)])) t → Steps p.tables e below G t := fun t k => K26 t (st30 t k)
  have f35 : Fld Z h30 b30 "org/arborlog/pattern/LineText" "chars" "[C" .null := D30 (Or.inl (hw _ (List.mem_of_getElem? (i := 12) rfl))) (ty := (.array .char)) (by decide)
  have f36 : Fld Z h30 b30 "org/arborlog/pattern/LineText" "length" "I" (.int (0 : Int32)) := D30 (Or.inl (hw _ (List.mem_of_getElem? (i := 19) rfl))) (ty := .int) (by decide)
  have hc7 := own_cap p6
  have K37 : ∀ t, Steps p.tables e below (T30.setTop (mkF m 54 #[.val (.int p1), .val (.int p2), .val (.int p3), .val (.int p4), .val (.int p5), .val (.int p6), .val (.int ((p1 &&& (2147483647 : Int32)) % (5 : Int32))), .val (.ref b2), .unset, .unset, .unset, .unset, .unset] [(.int (p6 &&& (7 : Int32))), (.ref b30), (.ref b30)])) t → Steps p.tables e below G t := by
    intro t k
    refine K34 t ?_
    show Steps p.tables e below (T30.setTop (mkF m 48 #[.val (.int p1), .val (.int p2), .val (.int p3), .val (.int p4), .val (.int p5), .val (.int p6), .val (.int ((p1 &&& (2147483647 : Int32)) % (5 : Int32))), .val (.ref b2), .unset, .unset, .unset, .unset, .unset] [(.ref b30)])) _
    refine XS.dup X30.here hx rfl (hb hby at_48) rfl rfl ?_
    show Steps p.tables e below (T30.setTop (mkF m 49 #[.val (.int p1), .val (.int p2), .val (.int p3), .val (.int p4), .val (.int p5), .val (.int p6), .val (.int ((p1 &&& (2147483647 : Int32)) % (5 : Int32))), .val (.ref b2), .unset, .unset, .unset, .unset, .unset] [(.ref b30), (.ref b30)])) _
    refine XS.iload X30.here hx rfl (hb hby at_49) rfl ?_
    show Steps p.tables e below (T30.setTop (mkF m 51 #[.val (.int p1), .val (.int p2), .val (.int p3), .val (.int p4), .val (.int p5), .val (.int p6), .val (.int ((p1 &&& (2147483647 : Int32)) % (5 : Int32))), .val (.ref b2), .unset, .unset, .unset, .unset, .unset] [(.int p6), (.ref b30), (.ref b30)])) _
    refine XS.bipush X30.here hx rfl (hb hby at_51) ?_
    show Steps p.tables e below (T30.setTop (mkF m 53 #[.val (.int p1), .val (.int p2), .val (.int p3), .val (.int p4), .val (.int p5), .val (.int p6), .val (.int ((p1 &&& (2147483647 : Int32)) % (5 : Int32))), .val (.ref b2), .unset, .unset, .unset, .unset, .unset] [(.int (7 : Int32)), (.int p6), (.ref b30), (.ref b30)])) _
    refine XS.iand X30.here hx rfl (hb hby at_53) rfl ?_
    show Steps p.tables e below (T30.setTop (mkF m 54 #[.val (.int p1), .val (.int p2), .val (.int p3), .val (.int p4), .val (.int p5), .val (.int p6), .val (.int ((p1 &&& (2147483647 : Int32)) % (5 : Int32))), .val (.ref b2), .unset, .unset, .unset, .unset, .unset] [(.int (p6 &&& (7 : Int32))), (.ref b30), (.ref b30)])) _
    exact k
  obtain ⟨_, _, ⟨T38, L38, kk38, nn38⟩, -, X38, ⟨Lc38, hQ38, lq38, yq38, zq38⟩, st38⟩ := X30.specialBack hx (y := (⟨"org/arborlog/pattern/LineText", "<init>", "(I)V"⟩ : MethodName)) rfl hown (mvT hZ (hw _ (List.mem_of_getElem? (i := 5) rfl))) (mvT hZ (hw _ (List.mem_of_getElem? (i := 6) rfl))) (mvT hZ (hw _ (List.mem_of_getElem? (i := 7) rfl))) (by decide) (backOf (W := 1) (rm1 l Z a0 hw [] b30 (p6 &&& (7 : Int32)) h30 n0 Z32 A30 f35 f36 g_b30 hc7.1 hc7.2.1) hZ (hw _ (List.mem_of_getElem? (i := 7) rfl)) (hw _ (List.mem_of_getElem? (i := 4) rfl)) (by decide) (by decide)) (g := (mkF m 54 #[.val (.int p1), .val (.int p2), .val (.int p3), .val (.int p4), .val (.int p5), .val (.int p6), .val (.int ((p1 &&& (2147483647 : Int32)) % (5 : Int32))), .val (.ref b2), .unset, .unset, .unset, .unset, .unset] [(.int (p6 &&& (7 : Int32))), (.ref b30), (.ref b30)])) rfl (by rw [hml]; rfl) (Steps.refl _) (a := b30) (argsL := [(.int (p6 &&& (7 : Int32)))]) (rest := [(.ref b30)]) (lenOf pd_2 rfl) rfl (by show 2 * 0 + _ ≤ _; exact Nat.le_of_eq rfl) (hb hby at_54) (fun _ _ => ⟨rfl, e30, (by decide : 2 + 1 ≤ _), (by decide : 6 + 8 ≤ _)⟩)
  dsimp only [Pt.U, Pt.locs, Pt.cells, Pt.slots] at X38 lq38 yq38 zq38 st38 hQ38
  subst lq38 yq38 zq38
  obtain ⟨b38, kb38, rfl, Nq38, K38, sz38, E38', Fc38, Fl38, Vb38⟩ := hQ38
  have N39 := Fr.app N29 Nq38
  have ne_b2_b38 : b2 ≠ b38 := Nat.ne_of_lt (Nat.lt_of_lt_of_le f31.lt sz38)
  have ne_b30_b38 : b30 ≠ b38 := Nat.ne_of_lt (Nat.lt_of_lt_of_le A30.lt sz38)
  have g_b38 : n0 ≤ b38 := Nat.le_trans Z32 sz38
  have sz_b38 : h0.size ≤ b38 := Nat.le_trans KP33.1 sz38
  have f40 := f31.keep K38 (ninS ne_b2_b30 nin0)
  have f41 := A30.keep K38
  have Z42 : n0 ≤ T38.heap.size := Nat.le_trans Z32 K38.1
  have KP43 : Keep h0 T38.heap [] := KP33.trans K38 (allS (Or.inr sz_b30) all0)
  have K44 : ∀ t, Steps p.tables e below (T38.setTop (mkF m 57 #[.val (.int p1), .val (.int p2), .val (.int p3), .val (.int p4), .val (.int p5), .val (.int p6), .val (.int ((p1 &&& (2147483647 : Int32)) % (5 : Int32))), .val (.ref b2), .unset, .unset, .unset, .unset, .unset] [(.ref b30)])) t → Steps p.tables e below G t := fun t k => K37 t (st38.trans k)
  have K45 : ∀ t, Steps p.tables e below (T38.setTop (mkF m 59 #[.val (.int p1), .val (.int p2), .val (.int p3), .val (.int p4), .val (.int p5), .val (.int p6), .val (.int ((p1 &&& (2147483647 : Int32)) % (5 : Int32))), .val (.ref b2), .val (.ref b30), .unset, .unset, .unset, .unset] [])) t → Steps p.tables e below G t := by
    intro t k
    refine K44 t ?_
    show Steps p.tables e below (T38.setTop (mkF m 57 #[.val (.int p1), .val (.int p2), .val (.int p3), .val (.int p4), .val (.int p5), .val (.int p6), .val (.int ((p1 &&& (2147483647 : Int32)) % (5 : Int32))), .val (.ref b2), .unset, .unset, .unset, .unset, .unset] [(.ref b30)])) _
    refine XS.astore X38.here hx rfl (hb hby at_57) rfl rfl (l' := #[.val (.int p1), .val (.int p2), .val (.int p3), .val (.int p4), .val (.int p5), .val (.int p6), .val (.int ((p1 &&& (2147483647 : Int32)) % (5 : Int32))), .val (.ref b2), .val (.ref b30), .unset, .unset, .unset, .unset]) rfl ?_
    show Steps p.tables e below (T38.setTop (mkF m 59 #[.val (.int p1), .val (.int p2), .val (.int p3), .val (.int p4), .val (.int p5), .val (.int p6), .val (.int ((p1 &&& (2147483647 : Int32)) % (5 : Int32))), .val (.ref b2), .val (.ref b30), .unset, .unset, .unset, .unset] [])) _
    exact k
  rcases own_rng p1 with hN | hN | hN | hN | hN
  · have K46 : ∀ t, Steps p.tables e below (T38.setTop (mkF m 59 #[.val (.int p1), .val (.int p2), .val (.int p3), .val (.int p4), .val (.int p5), .val (.int p6), .val (.int (0 : Int32)), .val (.ref b2), .val (.ref b30), .unset, .unset, .unset, .unset] [])) t → Steps p.tables e below G t := by have q := K45; rw [hN] at q; exact q
    have K47 : ∀ t, Steps p.tables e below (T38.setTop (mkF m 131 #[.val (.int p1), .val (.int p2), .val (.int p3), .val (.int p4), .val (.int p5), .val (.int p6), .val (.int (0 : Int32)), .val (.ref b2), .val (.ref b30), .unset, .unset, .unset, .unset] [(.int ((p2 &&& (2147483647 : Int32)) % (1 : Int32)))])) t → Steps p.tables e below G t := by
      intro t k
      refine K46 t ?_
      show Steps p.tables e below (T38.setTop (mkF m 59 #[.val (.int p1), .val (.int p2), .val (.int p3), .val (.int p4), .val (.int p5), .val (.int p6), .val (.int (0 : Int32)), .val (.ref b2), .val (.ref b30), .unset, .unset, .unset, .unset] [])) _
      refine XS.iload X38.here hx rfl (hb hby at_59) rfl ?_
      show Steps p.tables e below (T38.setTop (mkF m 61 #[.val (.int p1), .val (.int p2), .val (.int p3), .val (.int p4), .val (.int p5), .val (.int p6), .val (.int (0 : Int32)), .val (.ref b2), .val (.ref b30), .unset, .unset, .unset, .unset] [(.int (0 : Int32))])) _
      refine XS.ifYes X38.here hx rfl (pc0 := 61) (pc' := 74) rfl (hb hby at_61) rfl ((if0 _ _).trans (flt (by decide)).2.2.2) (by decide) (by decide) ?_
      show Steps p.tables e below (T38.setTop (mkF m 74 #[.val (.int p1), .val (.int p2), .val (.int p3), .val (.int p4), .val (.int p5), .val (.int p6), .val (.int (0 : Int32)), .val (.ref b2), .val (.ref b30), .unset, .unset, .unset, .unset] [])) _
      refine XS.iload X38.here hx rfl (hb hby at_74) rfl ?_
      show Steps p.tables e below (T38.setTop (mkF m 76 #[.val (.int p1), .val (.int p2), .val (.int p3), .val (.int p4), .val (.int p5), .val (.int p6), .val (.int (0 : Int32)), .val (.ref b2), .val (.ref b30), .unset, .unset, .unset, .unset] [(.int (0 : Int32))])) _
      refine XS.iconst X38.here hx rfl (hb hby at_76) ?_
      show Steps p.tables e below (T38.setTop (mkF m 77 #[.val (.int p1), .val (.int p2), .val (.int p3), .val (.int p4), .val (.int p5), .val (.int p6), .val (.int (0 : Int32)), .val (.ref b2), .val (.ref b30), .unset, .unset, .unset, .unset] [(.int (1 : Int32)), (.int (0 : Int32))])) _
      refine XS.icmpYes X38.here hx rfl (pc0 := 77) (pc' := 90) rfl (hb hby at_77) rfl (flt (by decide)).2.2.2 (by decide) (by decide) ?_
      show Steps p.tables e below (T38.setTop (mkF m 90 #[.val (.int p1), .val (.int p2), .val (.int p3), .val (.int p4), .val (.int p5), .val (.int p6), .val (.int (0 : Int32)), .val (.ref b2), .val (.ref b30), .unset, .unset, .unset, .unset] [])) _
      refine XS.iload X38.here hx rfl (hb hby at_90) rfl ?_
      show Steps p.tables e below (T38.setTop (mkF m 92 #[.val (.int p1), .val (.int p2), .val (.int p3), .val (.int p4), .val (.int p5), .val (.int p6), .val (.int (0 : Int32)), .val (.ref b2), .val (.ref b30), .unset, .unset, .unset, .unset] [(.int (0 : Int32))])) _
      refine XS.iconst X38.here hx rfl (hb hby at_92) ?_
      show Steps p.tables e below (T38.setTop (mkF m 93 #[.val (.int p1), .val (.int p2), .val (.int p3), .val (.int p4), .val (.int p5), .val (.int p6), .val (.int (0 : Int32)), .val (.ref b2), .val (.ref b30), .unset, .unset, .unset, .unset] [(.int (2 : Int32)), (.int (0 : Int32))])) _
      refine XS.icmpYes X38.here hx rfl (pc0 := 93) (pc' := 106) rfl (hb hby at_93) rfl (flt (by decide)).2.2.2 (by decide) (by decide) ?_
      show Steps p.tables e below (T38.setTop (mkF m 106 #[.val (.int p1), .val (.int p2), .val (.int p3), .val (.int p4), .val (.int p5), .val (.int p6), .val (.int (0 : Int32)), .val (.ref b2), .val (.ref b30), .unset, .unset, .unset, .unset] [])) _
      refine XS.iload X38.here hx rfl (hb hby at_106) rfl ?_
      show Steps p.tables e below (T38.setTop (mkF m 108 #[.val (.int p1), .val (.int p2), .val (.int p3), .val (.int p4), .val (.int p5), .val (.int p6), .val (.int (0 : Int32)), .val (.ref b2), .val (.ref b30), .unset, .unset, .unset, .unset] [(.int (0 : Int32))])) _
      refine XS.iconst X38.here hx rfl (hb hby at_108) ?_
      show Steps p.tables e below (T38.setTop (mkF m 109 #[.val (.int p1), .val (.int p2), .val (.int p3), .val (.int p4), .val (.int p5), .val (.int p6), .val (.int (0 : Int32)), .val (.ref b2), .val (.ref b30), .unset, .unset, .unset, .unset] [(.int (3 : Int32)), (.int (0 : Int32))])) _
      refine XS.icmpYes X38.here hx rfl (pc0 := 109) (pc' := 122) rfl (hb hby at_109) rfl (flt (by decide)).2.2.2 (by decide) (by decide) ?_
      show Steps p.tables e below (T38.setTop (mkF m 122 #[.val (.int p1), .val (.int p2), .val (.int p3), .val (.int p4), .val (.int p5), .val (.int p6), .val (.int (0 : Int32)), .val (.ref b2), .val (.ref b30), .unset, .unset, .unset, .unset] [])) _
      refine XS.iloadN X38.here hx rfl (hb hby at_122) rfl ?_
      show Steps p.tables e below (T38.setTop (mkF m 123 #[.val (.int p1), .val (.int p2), .val (.int p3), .val (.int p4), .val (.int p5), .val (.int p6), .val (.int (0 : Int32)), .val (.ref b2), .val (.ref b30), .unset, .unset, .unset, .unset] [(.int p2)])) _
      refine X38.ldcInt hx hown (mvT hZ (hw _ (List.mem_of_getElem? (i := 0) rfl))) (g := (mkF m 123 #[.val (.int p1), .val (.int p2), .val (.int p3), .val (.int p4), .val (.int p5), .val (.int p6), .val (.int (0 : Int32)), .val (.ref b2), .val (.ref b30), .unset, .unset, .unset, .unset] [(.int p2)])) rfl (hb hby at_123) _ ?_
      show Steps p.tables e below (T38.setTop (mkF m 125 #[.val (.int p1), .val (.int p2), .val (.int p3), .val (.int p4), .val (.int p5), .val (.int p6), .val (.int (0 : Int32)), .val (.ref b2), .val (.ref b30), .unset, .unset, .unset, .unset] [(.int (2147483647 : Int32)), (.int p2)])) _
      refine XS.iand X38.here hx rfl (hb hby at_125) rfl ?_
      show Steps p.tables e below (T38.setTop (mkF m 126 #[.val (.int p1), .val (.int p2), .val (.int p3), .val (.int p4), .val (.int p5), .val (.int p6), .val (.int (0 : Int32)), .val (.ref b2), .val (.ref b30), .unset, .unset, .unset, .unset] [(.int (p2 &&& (2147483647 : Int32)))])) _
      refine XS.iload X38.here hx rfl (hb hby at_126) rfl ?_
      show Steps p.tables e below (T38.setTop (mkF m 128 #[.val (.int p1), .val (.int p2), .val (.int p3), .val (.int p4), .val (.int p5), .val (.int p6), .val (.int (0 : Int32)), .val (.ref b2), .val (.ref b30), .unset, .unset, .unset, .unset] [(.int (0 : Int32)), (.int (p2 &&& (2147483647 : Int32)))])) _
      refine XS.iconst X38.here hx rfl (hb hby at_128) ?_
      show Steps p.tables e below (T38.setTop (mkF m 129 #[.val (.int p1), .val (.int p2), .val (.int p3), .val (.int p4), .val (.int p5), .val (.int p6), .val (.int (0 : Int32)), .val (.ref b2), .val (.ref b30), .unset, .unset, .unset, .unset] [(.int (1 : Int32)), (.int (0 : Int32)), (.int (p2 &&& (2147483647 : Int32)))])) _
      refine XS.iadd X38.here hx rfl (hb hby at_129) rfl ?_
      show Steps p.tables e below (T38.setTop (mkF m 130 #[.val (.int p1), .val (.int p2), .val (.int p3), .val (.int p4), .val (.int p5), .val (.int p6), .val (.int (0 : Int32)), .val (.ref b2), .val (.ref b30), .unset, .unset, .unset, .unset] [(.int (1 : Int32)), (.int (p2 &&& (2147483647 : Int32)))])) _
      refine iremM X38 hx rfl (hb hby at_130) rfl (by decide) ?_
      show Steps p.tables e below (T38.setTop (mkF m 131 #[.val (.int p1), .val (.int p2), .val (.int p3), .val (.int p4), .val (.int p5), .val (.int p6), .val (.int (0 : Int32)), .val (.ref b2), .val (.ref b30), .unset, .unset, .unset, .unset] [(.int ((p2 &&& (2147483647 : Int32)) % (1 : Int32)))])) _
      exact k
    obtain ⟨sa, h_sa⟩ : ∃ z_ : Int32, z_ = ((p2 &&& (2147483647 : Int32)) % (1 : Int32)) := ⟨_, rfl⟩
    have K48 : ∀ t, Steps p.tables e below (T38.setTop (mkF m 131 #[.val (.int p1), .val (.int p2), .val (.int p3), .val (.int p4), .val (.int p5), .val (.int p6), .val (.int (0 : Int32)), .val (.ref b2), .val (.ref b30), .unset, .unset, .unset, .unset] [(.int sa)])) t → Steps p.tables e below G t := by rw [h_sa]; exact K47
    have hsa := own_st p2 (0 : Int32) (1 : Int32) rfl (by decide) sa h_sa
    have K49 : ∀ t, Steps p.tables e below (T38.setTop (mkF m 148 #[.val (.int p1), .val (.int p2), .val (.int p3), .val (.int p4), .val (.int p5), .val (.int p6), .val (.int (0 : Int32)), .val (.ref b2), .val (.ref b30), .val (.int sa), .unset, .unset, .unset] [(.int (sa + ((p3 &&& (2147483647 : Int32)) % (((0 : Int32) - sa) + (1 : Int32)))))])) t → Steps p.tables e below G t := by
      intro t k
      refine K48 t ?_
      show Steps p.tables e below (T38.setTop (mkF m 131 #[.val (.int p1), .val (.int p2), .val (.int p3), .val (.int p4), .val (.int p5), .val (.int p6), .val (.int (0 : Int32)), .val (.ref b2), .val (.ref b30), .unset, .unset, .unset, .unset] [(.int sa)])) _
      refine XS.istore X38.here hx rfl (hb hby at_131) rfl (l' := #[.val (.int p1), .val (.int p2), .val (.int p3), .val (.int p4), .val (.int p5), .val (.int p6), .val (.int (0 : Int32)), .val (.ref b2), .val (.ref b30), .val (.int sa), .unset, .unset, .unset]) rfl ?_
      show Steps p.tables e below (T38.setTop (mkF m 133 #[.val (.int p1), .val (.int p2), .val (.int p3), .val (.int p4), .val (.int p5), .val (.int p6), .val (.int (0 : Int32)), .val (.ref b2), .val (.ref b30), .val (.int sa), .unset, .unset, .unset] [])) _
      refine XS.iload X38.here hx rfl (hb hby at_133) rfl ?_
      show Steps p.tables e below (T38.setTop (mkF m 135 #[.val (.int p1), .val (.int p2), .val (.int p3), .val (.int p4), .val (.int p5), .val (.int p6), .val (.int (0 : Int32)), .val (.ref b2), .val (.ref b30), .val (.int sa), .unset, .unset, .unset] [(.int sa)])) _
      refine XS.iloadN X38.here hx rfl (hb hby at_135) rfl ?_
      show Steps p.tables e below (T38.setTop (mkF m 136 #[.val (.int p1), .val (.int p2), .val (.int p3), .val (.int p4), .val (.int p5), .val (.int p6), .val (.int (0 : Int32)), .val (.ref b2), .val (.ref b30), .val (.int sa), .unset, .unset, .unset] [(.int p3), (.int sa)])) _
      refine X38.ldcInt hx hown (mvT hZ (hw _ (List.mem_of_getElem? (i := 0) rfl))) (g := (mkF m 136 #[.val (.int p1), .val (.int p2), .val (.int p3), .val (.int p4), .val (.int p5), .val (.int p6), .val (.int (0 : Int32)), .val (.ref b2), .val (.ref b30), .val (.int sa), .unset, .unset, .unset] [(.int p3), (.int sa)])) rfl (hb hby at_136) _ ?_
      show Steps p.tables e below (T38.setTop (mkF m 138 #[.val (.int p1), .val (.int p2), .val (.int p3), .val (.int p4), .val (.int p5), .val (.int p6), .val (.int (0 : Int32)), .val (.ref b2), .val (.ref b30), .val (.int sa), .unset, .unset, .unset] [(.int (2147483647 : Int32)), (.int p3), (.int sa)])) _
      refine XS.iand X38.here hx rfl (hb hby at_138) rfl ?_
      show Steps p.tables e below (T38.setTop (mkF m 139 #[.val (.int p1), .val (.int p2), .val (.int p3), .val (.int p4), .val (.int p5), .val (.int p6), .val (.int (0 : Int32)), .val (.ref b2), .val (.ref b30), .val (.int sa), .unset, .unset, .unset] [(.int (p3 &&& (2147483647 : Int32))), (.int sa)])) _
      refine XS.iload X38.here hx rfl (hb hby at_139) rfl ?_
      show Steps p.tables e below (T38.setTop (mkF m 141 #[.val (.int p1), .val (.int p2), .val (.int p3), .val (.int p4), .val (.int p5), .val (.int p6), .val (.int (0 : Int32)), .val (.ref b2), .val (.ref b30), .val (.int sa), .unset, .unset, .unset] [(.int (0 : Int32)), (.int (p3 &&& (2147483647 : Int32))), (.int sa)])) _
      refine XS.iload X38.here hx rfl (hb hby at_141) rfl ?_
      show Steps p.tables e below (T38.setTop (mkF m 143 #[.val (.int p1), .val (.int p2), .val (.int p3), .val (.int p4), .val (.int p5), .val (.int p6), .val (.int (0 : Int32)), .val (.ref b2), .val (.ref b30), .val (.int sa), .unset, .unset, .unset] [(.int sa), (.int (0 : Int32)), (.int (p3 &&& (2147483647 : Int32))), (.int sa)])) _
      refine XS.isub X38.here hx rfl (hb hby at_143) rfl ?_
      show Steps p.tables e below (T38.setTop (mkF m 144 #[.val (.int p1), .val (.int p2), .val (.int p3), .val (.int p4), .val (.int p5), .val (.int p6), .val (.int (0 : Int32)), .val (.ref b2), .val (.ref b30), .val (.int sa), .unset, .unset, .unset] [(.int ((0 : Int32) - sa)), (.int (p3 &&& (2147483647 : Int32))), (.int sa)])) _
      refine XS.iconst X38.here hx rfl (hb hby at_144) ?_
      show Steps p.tables e below (T38.setTop (mkF m 145 #[.val (.int p1), .val (.int p2), .val (.int p3), .val (.int p4), .val (.int p5), .val (.int p6), .val (.int (0 : Int32)), .val (.ref b2), .val (.ref b30), .val (.int sa), .unset, .unset, .unset] [(.int (1 : Int32)), (.int ((0 : Int32) - sa)), (.int (p3 &&& (2147483647 : Int32))), (.int sa)])) _
      refine XS.iadd X38.here hx rfl (hb hby at_145) rfl ?_
      show Steps p.tables e below (T38.setTop (mkF m 146 #[.val (.int p1), .val (.int p2), .val (.int p3), .val (.int p4), .val (.int p5), .val (.int p6), .val (.int (0 : Int32)), .val (.ref b2), .val (.ref b30), .val (.int sa), .unset, .unset, .unset] [(.int (((0 : Int32) - sa) + (1 : Int32))), (.int (p3 &&& (2147483647 : Int32))), (.int sa)])) _
      refine iremM X38 hx rfl (hb hby at_146) rfl (own_nz _ _ (by decide) hsa).2 ?_
      show Steps p.tables e below (T38.setTop (mkF m 147 #[.val (.int p1), .val (.int p2), .val (.int p3), .val (.int p4), .val (.int p5), .val (.int p6), .val (.int (0 : Int32)), .val (.ref b2), .val (.ref b30), .val (.int sa), .unset, .unset, .unset] [(.int ((p3 &&& (2147483647 : Int32)) % (((0 : Int32) - sa) + (1 : Int32)))), (.int sa)])) _
      refine XS.iadd X38.here hx rfl (hb hby at_147) rfl ?_
      show Steps p.tables e below (T38.setTop (mkF m 148 #[.val (.int p1), .val (.int p2), .val (.int p3), .val (.int p4), .val (.int p5), .val (.int p6), .val (.int (0 : Int32)), .val (.ref b2), .val (.ref b30), .val (.int sa), .unset, .unset, .unset] [(.int (sa + ((p3 &&& (2147483647 : Int32)) % (((0 : Int32) - sa) + (1 : Int32)))))])) _
      exact k
    obtain ⟨ea, h_ea⟩ : ∃ z_ : Int32, z_ = (sa + ((p3 &&& (2147483647 : Int32)) % (((0 : Int32) - sa) + (1 : Int32)))) := ⟨_, rfl⟩
    have K50 : ∀ t, Steps p.tables e below (T38.setTop (mkF m 148 #[.val (.int p1), .val (.int p2), .val (.int p3), .val (.int p4), .val (.int p5), .val (.int p6), .val (.int (0 : Int32)), .val (.ref b2), .val (.ref b30), .val (.int sa), .unset, .unset, .unset] [(.int ea)])) t → Steps p.tables e below G t := by rw [h_ea]; exact K49
    have hea := own_en p3 (0 : Int32) sa ea (by decide) hsa h_ea
    have hB : own_B (0 : Int32) sa ea := ⟨hsa.1, hea.1, hea.2, by decide⟩
    have K51 : ∀ t, Steps p.tables e below (T38.setTop (mkF m 156 #[.val (.int p1), .val (.int p2), .val (.int p3), .val (.int p4), .val (.int p5), .val (.int p6), .val (.int (0 : Int32)), .val (.ref b2), .val (.ref b30), .val (.int sa), .val (.int ea), .unset, .unset] [(.int ea), (.int sa), (.ref b30)])) t → Steps p.tables e below G t := by
      intro t k
      refine K50 t ?_
      show Steps p.tables e below (T38.setTop (mkF m 148 #[.val (.int p1), .val (.int p2), .val (.int p3), .val (.int p4), .val (.int p5), .val (.int p6), .val (.int (0 : Int32)), .val (.ref b2), .val (.ref b30), .val (.int sa), .unset, .unset, .unset] [(.int ea)])) _
      refine XS.istore X38.here hx rfl (hb hby at_148) rfl (l' := #[.val (.int p1), .val (.int p2), .val (.int p3), .val (.int p4), .val (.int p5), .val (.int p6), .val (.int (0 : Int32)), .val (.ref b2), .val (.ref b30), .val (.int sa), .val (.int ea), .unset, .unset]) rfl ?_
      show Steps p.tables e below (T38.setTop (mkF m 150 #[.val (.int p1), .val (.int p2), .val (.int p3), .val (.int p4), .val (.int p5), .val (.int p6), .val (.int (0 : Int32)), .val (.ref b2), .val (.ref b30), .val (.int sa), .val (.int ea), .unset, .unset] [])) _
      refine XS.aload X38.here hx rfl (hb hby at_150) rfl rfl ?_
      show Steps p.tables e below (T38.setTop (mkF m 152 #[.val (.int p1), .val (.int p2), .val (.int p3), .val (.int p4), .val (.int p5), .val (.int p6), .val (.int (0 : Int32)), .val (.ref b2), .val (.ref b30), .val (.int sa), .val (.int ea), .unset, .unset] [(.ref b30)])) _
      refine XS.iload X38.here hx rfl (hb hby at_152) rfl ?_
      show Steps p.tables e below (T38.setTop (mkF m 154 #[.val (.int p1), .val (.int p2), .val (.int p3), .val (.int p4), .val (.int p5), .val (.int p6), .val (.int (0 : Int32)), .val (.ref b2), .val (.ref b30), .val (.int sa), .val (.int ea), .unset, .unset] [(.int sa), (.ref b30)])) _
      refine XS.iload X38.here hx rfl (hb hby at_154) rfl ?_
      show Steps p.tables e below (T38.setTop (mkF m 156 #[.val (.int p1), .val (.int p2), .val (.int p3), .val (.int p4), .val (.int p5), .val (.int p6), .val (.int (0 : Int32)), .val (.ref b2), .val (.ref b30), .val (.int sa), .val (.int ea), .unset, .unset] [(.int ea), (.int sa), (.ref b30)])) _
      exact k
    obtain ⟨cq52, kq52, q52a, q52b, q52c⟩ := isOf hZ rfl E38'
    obtain ⟨_, _, ⟨T52, L52, kk52, nn52⟩, -, X52, ⟨Lc52, hQ52, lq52, yq52, zq52⟩, st52⟩ := X38.virtualBack hx (y := (⟨"org/arborlog/pattern/LineText", "delete", "(II)V"⟩ : MethodName)) (z := (⟨"org/arborlog/pattern/LineText", "delete", "(II)V"⟩ : MethodName)) hown (mvT hZ (hw _ (List.mem_of_getElem? (i := 13) rfl))) (mvT hZ (hw _ (List.mem_of_getElem? (i := 14) rfl))) (notFace_of_selects (args := #[]) (mvT hZ (hw _ (List.mem_of_getElem? (i := 16) rfl)))) (mvT hZ (hw _ (List.mem_of_getElem? (i := 16) rfl))) (mvT hZ (hw _ (List.mem_of_getElem? (i := 15) rfl))) (by decide) (backOf (W := 0) (rm3 l Z a0 hw [] b30 sa ea b38 kb38 (p6 &&& (7 : Int32)) (0 : Int32) [] T38.heap n0 Z42 E38' Fc38 Fl38 Vb38 ne_b30_b38 g_b30 g_b38 hB hc7.1) hZ (hw _ (List.mem_of_getElem? (i := 17) rfl)) (hw _ (List.mem_of_getElem? (i := 4) rfl)) (by decide) (by decide)) q52a q52c (g := (mkF m 156 #[.val (.int p1), .val (.int p2), .val (.int p3), .val (.int p4), .val (.int p5), .val (.int p6), .val (.int (0 : Int32)), .val (.ref b2), .val (.ref b30), .val (.int sa), .val (.int ea), .unset, .unset] [(.int ea), (.int sa), (.ref b30)])) rfl (by rw [hml]; rfl) (Steps.refl _) (argsL := [(.int sa), (.int ea)]) (rest := []) (lenOf pd_4 rfl) rfl (by show 2 * 0 + _ ≤ _; exact Nat.le_of_eq rfl) (hb hby at_156) (fun _ _ => ⟨rfl, rfl, (by decide : 3 + 0 ≤ _), (by decide : 14 + 0 ≤ _)⟩)
    dsimp only [Pt.U, Pt.locs, Pt.cells, Pt.slots] at X52 lq52 yq52 zq52 st52 hQ52
    subst lq52 yq52 zq52
    obtain ⟨vs52, rfl, Nq52, K52, E52', Fc52, Fl52, Vb52, hA52, hB52⟩ := hQ52
    have N53 := Fr.app N39 Nq52
    have f54 := f40.keep K52 (ninS ne_b2_b30 (ninS ne_b2_b38 nin0))
    have f55 := E38'.keep K52
    have Z56 : n0 ≤ T52.heap.size := Nat.le_trans Z42 K52.1
    have KP57 : Keep h0 T52.heap [] := KP43.trans K52 (allS (Or.inr sz_b30) (allS (Or.inr sz_b38) all0))
    have K58 : ∀ t, Steps p.tables e below (T52.setTop (mkF m 159 #[.val (.int p1), .val (.int p2), .val (.int p3), .val (.int p4), .val (.int p5), .val (.int p6), .val (.int (0 : Int32)), .val (.ref b2), .val (.ref b30), .val (.int sa), .val (.int ea), .unset, .unset] [])) t → Steps p.tables e below G t := fun t k => K51 t (st52.trans k)
    have K59 : ∀ t, Steps p.tables e below (T52.setTop (mkF m 167 #[.val (.int p1), .val (.int p2), .val (.int p3), .val (.int p4), .val (.int p5), .val (.int p6), .val (.int (0 : Int32)), .val (.ref b2), .val (.ref b30), .val (.int sa), .val (.int ea), .unset, .unset] [(.int ((0 : Int32) - (ea - sa)))])) t → Steps p.tables e below G t := by
      intro t k
      refine K58 t ?_
      show Steps p.tables e below (T52.setTop (mkF m 159 #[.val (.int p1), .val (.int p2), .val (.int p3), .val (.int p4), .val (.int p5), .val (.int p6), .val (.int (0 : Int32)), .val (.ref b2), .val (.ref b30), .val (.int sa), .val (.int ea), .unset, .unset] [])) _
      refine XS.iload X52.here hx rfl (hb hby at_159) rfl ?_
      show Steps p.tables e below (T52.setTop (mkF m 161 #[.val (.int p1), .val (.int p2), .val (.int p3), .val (.int p4), .val (.int p5), .val (.int p6), .val (.int (0 : Int32)), .val (.ref b2), .val (.ref b30), .val (.int sa), .val (.int ea), .unset, .unset] [(.int (0 : Int32))])) _
      refine XS.iload X52.here hx rfl (hb hby at_161) rfl ?_
      show Steps p.tables e below (T52.setTop (mkF m 163 #[.val (.int p1), .val (.int p2), .val (.int p3), .val (.int p4), .val (.int p5), .val (.int p6), .val (.int (0 : Int32)), .val (.ref b2), .val (.ref b30), .val (.int sa), .val (.int ea), .unset, .unset] [(.int ea), (.int (0 : Int32))])) _
      refine XS.iload X52.here hx rfl (hb hby at_163) rfl ?_
      show Steps p.tables e below (T52.setTop (mkF m 165 #[.val (.int p1), .val (.int p2), .val (.int p3), .val (.int p4), .val (.int p5), .val (.int p6), .val (.int (0 : Int32)), .val (.ref b2), .val (.ref b30), .val (.int sa), .val (.int ea), .unset, .unset] [(.int sa), (.int ea), (.int (0 : Int32))])) _
      refine XS.isub X52.here hx rfl (hb hby at_165) rfl ?_
      show Steps p.tables e below (T52.setTop (mkF m 166 #[.val (.int p1), .val (.int p2), .val (.int p3), .val (.int p4), .val (.int p5), .val (.int p6), .val (.int (0 : Int32)), .val (.ref b2), .val (.ref b30), .val (.int sa), .val (.int ea), .unset, .unset] [(.int (ea - sa)), (.int (0 : Int32))])) _
      refine XS.isub X52.here hx rfl (hb hby at_166) rfl ?_
      show Steps p.tables e below (T52.setTop (mkF m 167 #[.val (.int p1), .val (.int p2), .val (.int p3), .val (.int p4), .val (.int p5), .val (.int p6), .val (.int (0 : Int32)), .val (.ref b2), .val (.ref b30), .val (.int sa), .val (.int ea), .unset, .unset] [(.int ((0 : Int32) - (ea - sa)))])) _
      exact k
    obtain ⟨nl, h_nl⟩ : ∃ z_ : Int32, z_ = ((0 : Int32) - (ea - sa)) := ⟨_, rfl⟩
    have K60 : ∀ t, Steps p.tables e below (T52.setTop (mkF m 167 #[.val (.int p1), .val (.int p2), .val (.int p3), .val (.int p4), .val (.int p5), .val (.int p6), .val (.int (0 : Int32)), .val (.ref b2), .val (.ref b30), .val (.int sa), .val (.int ea), .unset, .unset] [(.int nl)])) t → Steps p.tables e below G t := by rw [h_nl]; exact K59
    have K61 : ∀ t, Steps p.tables e below (T52.setTop (mkF m 171 #[.val (.int p1), .val (.int p2), .val (.int p3), .val (.int p4), .val (.int p5), .val (.int p6), .val (.int (0 : Int32)), .val (.ref b2), .val (.ref b30), .val (.int sa), .val (.int ea), .val (.int nl), .unset] [(.ref b30)])) t → Steps p.tables e below G t := by
      intro t k
      refine K60 t ?_
      show Steps p.tables e below (T52.setTop (mkF m 167 #[.val (.int p1), .val (.int p2), .val (.int p3), .val (.int p4), .val (.int p5), .val (.int p6), .val (.int (0 : Int32)), .val (.ref b2), .val (.ref b30), .val (.int sa), .val (.int ea), .unset, .unset] [(.int nl)])) _
      refine XS.istore X52.here hx rfl (hb hby at_167) rfl (l' := #[.val (.int p1), .val (.int p2), .val (.int p3), .val (.int p4), .val (.int p5), .val (.int p6), .val (.int (0 : Int32)), .val (.ref b2), .val (.ref b30), .val (.int sa), .val (.int ea), .val (.int nl), .unset]) rfl ?_
      show Steps p.tables e below (T52.setTop (mkF m 169 #[.val (.int p1), .val (.int p2), .val (.int p3), .val (.int p4), .val (.int p5), .val (.int p6), .val (.int (0 : Int32)), .val (.ref b2), .val (.ref b30), .val (.int sa), .val (.int ea), .val (.int nl), .unset] [])) _
      refine XS.aload X52.here hx rfl (hb hby at_169) rfl rfl ?_
      show Steps p.tables e below (T52.setTop (mkF m 171 #[.val (.int p1), .val (.int p2), .val (.int p3), .val (.int p4), .val (.int p5), .val (.int p6), .val (.int (0 : Int32)), .val (.ref b2), .val (.ref b30), .val (.int sa), .val (.int ea), .val (.int nl), .unset] [(.ref b30)])) _
      exact k
    obtain ⟨cq62, kq62, q62a, q62b, q62c⟩ := isOf hZ rfl E52'
    obtain ⟨_, _, ⟨T62, L62, kk62, nn62⟩, -, X62, ⟨Lc62, hQ62, lq62, yq62, zq62⟩, st62⟩ := X52.virtualBack hx (y := (⟨"org/arborlog/pattern/LineText", "length", "()I"⟩ : MethodName)) (z := (⟨"org/arborlog/pattern/LineText", "length", "()I"⟩ : MethodName)) hown (mvT hZ (hw _ (List.mem_of_getElem? (i := 24) rfl))) (mvT hZ (hw _ (List.mem_of_getElem? (i := 25) rfl))) (notFace_of_selects (args := #[]) (mvT hZ (hw _ (List.mem_of_getElem? (i := 27) rfl)))) (mvT hZ (hw _ (List.mem_of_getElem? (i := 27) rfl))) (mvT hZ (hw _ (List.mem_of_getElem? (i := 26) rfl))) (by decide) (backOf (W := 0) (rm4 l Z a0 hw [] b30 ((0 : Int32) - (ea - sa)) T52.heap n0 Z56 Fl52) hZ (hw _ (List.mem_of_getElem? (i := 28) rfl)) (hw _ (List.mem_of_getElem? (i := 4) rfl)) (by decide) (by decide)) q62a q62c (g := (mkF m 171 #[.val (.int p1), .val (.int p2), .val (.int p3), .val (.int p4), .val (.int p5), .val (.int p6), .val (.int (0 : Int32)), .val (.ref b2), .val (.ref b30), .val (.int sa), .val (.int ea), .val (.int nl), .unset] [(.ref b30)])) rfl (by rw [hml]; rfl) (Steps.refl _) (argsL := []) (rest := []) (lenOf pd_5 rfl) rfl (by show 2 * 0 + _ ≤ _; exact Nat.le_of_eq rfl) (hb hby at_171) (fun _ _ => ⟨rfl, rfl, (by decide : 3 + 0 ≤ _), (by decide : 14 + 0 ≤ _)⟩)
    dsimp only [Pt.U, Pt.locs, Pt.cells, Pt.slots] at X62 lq62 yq62 zq62 st62 hQ62
    subst lq62 yq62 zq62
    obtain ⟨rfl, Nq62, e62⟩ := hQ62
    have N63 := Fr.app N53 Nq62
    have K64 : ∀ t, Steps p.tables e below (T62.setTop (mkF m 174 #[.val (.int p1), .val (.int p2), .val (.int p3), .val (.int p4), .val (.int p5), .val (.int p6), .val (.int (0 : Int32)), .val (.ref b2), .val (.ref b30), .val (.int sa), .val (.int ea), .val (.int nl), .unset] [(.int ((0 : Int32) - (ea - sa)))])) t → Steps p.tables e below G t := fun t k => K61 t (st62.trans k)
    have K65 : ∀ t, Steps p.tables e below (T62.setTop (mkF m 183 #[.val (.int p1), .val (.int p2), .val (.int p3), .val (.int p4), .val (.int p5), .val (.int p6), .val (.int (0 : Int32)), .val (.ref b2), .val (.ref b30), .val (.int sa), .val (.int ea), .val (.int nl), .unset] [(.ref b30)])) t → Steps p.tables e below G t := by
      intro t k
      refine K64 t ?_
      show Steps p.tables e below (T62.setTop (mkF m 174 #[.val (.int p1), .val (.int p2), .val (.int p3), .val (.int p4), .val (.int p5), .val (.int p6), .val (.int (0 : Int32)), .val (.ref b2), .val (.ref b30), .val (.int sa), .val (.int ea), .val (.int nl), .unset] [(.int ((0 : Int32) - (ea - sa)))])) _
      refine XS.iload X62.here hx rfl (hb hby at_174) rfl ?_
      show Steps p.tables e below (T62.setTop (mkF m 176 #[.val (.int p1), .val (.int p2), .val (.int p3), .val (.int p4), .val (.int p5), .val (.int p6), .val (.int (0 : Int32)), .val (.ref b2), .val (.ref b30), .val (.int sa), .val (.int ea), .val (.int nl), .unset] [(.int nl), (.int ((0 : Int32) - (ea - sa)))])) _
      refine XS.icmpYes X62.here hx rfl (pc0 := 176) (pc' := 181) rfl (hb hby at_176) rfl (teq h_nl.symm).1 (by decide) (by decide) ?_
      show Steps p.tables e below (T62.setTop (mkF m 181 #[.val (.int p1), .val (.int p2), .val (.int p3), .val (.int p4), .val (.int p5), .val (.int p6), .val (.int (0 : Int32)), .val (.ref b2), .val (.ref b30), .val (.int sa), .val (.int ea), .val (.int nl), .unset] [])) _
      refine XS.aload X62.here hx rfl (hb hby at_181) rfl rfl ?_
      show Steps p.tables e below (T62.setTop (mkF m 183 #[.val (.int p1), .val (.int p2), .val (.int p3), .val (.int p4), .val (.int p5), .val (.int p6), .val (.int (0 : Int32)), .val (.ref b2), .val (.ref b30), .val (.int sa), .val (.int ea), .val (.int nl), .unset] [(.ref b30)])) _
      exact k
    obtain ⟨cq66, kq66, q66a, q66b, q66c⟩ := isOf hZ e62 E52'
    obtain ⟨_, _, ⟨T66, L66, kk66, nn66⟩, -, X66, ⟨Lc66, hQ66, lq66, yq66, zq66⟩, st66⟩ := X62.virtualBack hx (y := (⟨"org/arborlog/pattern/LineText", "chars", "()[C"⟩ : MethodName)) (z := (⟨"org/arborlog/pattern/LineText", "chars", "()[C"⟩ : MethodName)) hown (mvT hZ (hw _ (List.mem_of_getElem? (i := 29) rfl))) (mvT hZ (hw _ (List.mem_of_getElem? (i := 30) rfl))) (notFace_of_selects (args := #[]) (mvT hZ (hw _ (List.mem_of_getElem? (i := 32) rfl)))) (mvT hZ (hw _ (List.mem_of_getElem? (i := 32) rfl))) (mvT hZ (hw _ (List.mem_of_getElem? (i := 31) rfl))) (by decide) (backOf (W := 0) (rm5 l Z a0 hw [] b30 b38 T52.heap n0 Z56 Fc52) hZ (hw _ (List.mem_of_getElem? (i := 33) rfl)) (hw _ (List.mem_of_getElem? (i := 4) rfl)) (by decide) (by decide)) q66a q66c (g := (mkF m 183 #[.val (.int p1), .val (.int p2), .val (.int p3), .val (.int p4), .val (.int p5), .val (.int p6), .val (.int (0 : Int32)), .val (.ref b2), .val (.ref b30), .val (.int sa), .val (.int ea), .val (.int nl), .unset] [(.ref b30)])) rfl (by rw [hml]; rfl) (Steps.refl _) (argsL := []) (rest := []) (lenOf pd_6 rfl) rfl (by show 2 * 0 + _ ≤ _; exact Nat.le_of_eq rfl) (hb hby at_183) (fun _ _ => ⟨rfl, e62, (by decide : 3 + 0 ≤ _), (by decide : 14 + 0 ≤ _)⟩)
    dsimp only [Pt.U, Pt.locs, Pt.cells, Pt.slots] at X66 lq66 yq66 zq66 st66 hQ66
    subst lq66 yq66 zq66
    obtain ⟨rfl, Nq66, e66⟩ := hQ66
    have N67 := Fr.app N63 Nq66
    have K68 : ∀ t, Steps p.tables e below (T66.setTop (mkF m 186 #[.val (.int p1), .val (.int p2), .val (.int p3), .val (.int p4), .val (.int p5), .val (.int p6), .val (.int (0 : Int32)), .val (.ref b2), .val (.ref b30), .val (.int sa), .val (.int ea), .val (.int nl), .unset] [(.ref b38)])) t → Steps p.tables e below G t := fun t k => K65 t (st66.trans k)
    have K69 : ∀ t, Steps p.tables e below (T66.setTop (mkF m 190 #[.val (.int p1), .val (.int p2), .val (.int p3), .val (.int p4), .val (.int p5), .val (.int p6), .val (.int (0 : Int32)), .val (.ref b2), .val (.ref b30), .val (.int sa), .val (.int ea), .val (.int nl), .val (.ref b38)] [(.ref b38)])) t → Steps p.tables e below G t := by
      intro t k
      refine K68 t ?_
      show Steps p.tables e below (T66.setTop (mkF m 186 #[.val (.int p1), .val (.int p2), .val (.int p3), .val (.int p4), .val (.int p5), .val (.int p6), .val (.int (0 : Int32)), .val (.ref b2), .val (.ref b30), .val (.int sa), .val (.int ea), .val (.int nl), .unset] [(.ref b38)])) _
      refine XS.astore X66.here hx rfl (hb hby at_186) rfl rfl (l' := #[.val (.int p1), .val (.int p2), .val (.int p3), .val (.int p4), .val (.int p5), .val (.int p6), .val (.int (0 : Int32)), .val (.ref b2), .val (.ref b30), .val (.int sa), .val (.int ea), .val (.int nl), .val (.ref b38)]) rfl ?_
      show Steps p.tables e below (T66.setTop (mkF m 188 #[.val (.int p1), .val (.int p2), .val (.int p3), .val (.int p4), .val (.int p5), .val (.int p6), .val (.int (0 : Int32)), .val (.ref b2), .val (.ref b30), .val (.int sa), .val (.int ea), .val (.int nl), .val (.ref b38)] [])) _
      refine XS.aload X66.here hx rfl (hb hby at_188) rfl rfl ?_
      show Steps p.tables e below (T66.setTop (mkF m 190 #[.val (.int p1), .val (.int p2), .val (.int p3), .val (.int p4), .val (.int p5), .val (.int p6), .val (.int (0 : Int32)), .val (.ref b2), .val (.ref b30), .val (.int sa), .val (.int ea), .val (.int nl), .val (.ref b38)] [(.ref b38)])) _
      exact k
    obtain ⟨cl70, Ar70, -, S70, M70, -, -⟩ := id Vb52
    have K71 : ∀ t, Steps p.tables e below (T66.setTop (mkF m 191 #[.val (.int p1), .val (.int p2), .val (.int p3), .val (.int p4), .val (.int p5), .val (.int p6), .val (.int (0 : Int32)), .val (.ref b2), .val (.ref b30), .val (.int sa), .val (.int ea), .val (.int nl), .val (.ref b38)] [(.int (p6 &&& (7 : Int32)))])) t → Steps p.tables e below G t := by
      intro t k
      refine K69 t ?_
      refine X66.arraylength hx (by rw [e66]; exact Ar70.1) (State.isArrayOf_alike hZ.alike Ar70.2.1) (g := (mkF m 190 #[.val (.int p1), .val (.int p2), .val (.int p3), .val (.int p4), .val (.int p5), .val (.int p6), .val (.int (0 : Int32)), .val (.ref b2), .val (.ref b30), .val (.int sa), .val (.int ea), .val (.int nl), .val (.ref b38)] [(.ref b38)])) rfl rfl (hb hby at_190) _ ?_
      rw [len_of S70 M70]
      exact k
    have K72 : ∀ t, Steps p.tables e below (T66.setTop (mkF m 198 #[.val (.int p1), .val (.int p2), .val (.int p3), .val (.int p4), .val (.int p5), .val (.int p6), .val (.int (0 : Int32)), .val (.ref b2), .val (.ref b30), .val (.int sa), .val (.int ea), .val (.int nl), .val (.ref b38)] [])) t → Steps p.tables e below G t := by
      intro t k
      refine K71 t ?_
      show Steps p.tables e below (T66.setTop (mkF m 191 #[.val (.int p1), .val (.int p2), .val (.int p3), .val (.int p4), .val (.int p5), .val (.int p6), .val (.int (0 : Int32)), .val (.ref b2), .val (.ref b30), .val (.int sa), .val (.int ea), .val (.int nl), .val (.ref b38)] [(.int (p6 &&& (7 : Int32)))])) _
      refine XS.iload X66.here hx rfl (hb hby at_191) rfl ?_
      show Steps p.tables e below (T66.setTop (mkF m 193 #[.val (.int p1), .val (.int p2), .val (.int p3), .val (.int p4), .val (.int p5), .val (.int p6), .val (.int (0 : Int32)), .val (.ref b2), .val (.ref b30), .val (.int sa), .val (.int ea), .val (.int nl), .val (.ref b38)] [(.int nl), (.int (p6 &&& (7 : Int32)))])) _
      refine XS.icmpYes X66.here hx rfl (pc0 := 193) (pc' := 198) rfl (hb hby at_193) rfl (flt (own_zl hB hc7.1 h_nl)).2.1 (by decide) (by decide) ?_
      show Steps p.tables e below (T66.setTop (mkF m 198 #[.val (.int p1), .val (.int p2), .val (.int p3), .val (.int p4), .val (.int p5), .val (.int p6), .val (.int (0 : Int32)), .val (.ref b2), .val (.ref b30), .val (.int sa), .val (.int ea), .val (.int nl), .val (.ref b38)] [])) _
      exact k
    have hf : ∀ j : Nat, j < (0 : Int32).toNatClampNeg → [].getD j (Value.int (0 : Int32)) = .int (nar .char (([(nar .char (p4.toUInt32.toUInt16.toUInt32.toInt32)), (nar .char (((p4.toUInt32 >>> ((16 : Int32) &&& 31).toUInt32).toInt32).toUInt32.toUInt16.toUInt32.toInt32)), (nar .char (p5.toUInt32.toUInt16.toUInt32.toInt32)), (nar .char (((p5.toUInt32 >>> ((16 : Int32) &&& 31).toUInt32).toInt32).toUInt32.toUInt16.toUInt32.toInt32))] : List Int32).getD j 0)) ∧ [(.int (nar .char (p4.toUInt32.toUInt16.toUInt32.toInt32))), (.int (nar .char (((p4.toUInt32 >>> ((16 : Int32) &&& 31).toUInt32).toInt32).toUInt32.toUInt16.toUInt32.toInt32))), (.int (nar .char (p5.toUInt32.toUInt16.toUInt32.toInt32))), (.int (nar .char (((p5.toUInt32 >>> ((16 : Int32) &&& 31).toUInt32).toInt32).toUInt32.toUInt16.toUInt32.toInt32)))].getD j (Value.int (0 : Int32)) = .int (([(nar .char (p4.toUInt32.toUInt16.toUInt32.toInt32)), (nar .char (((p4.toUInt32 >>> ((16 : Int32) &&& 31).toUInt32).toInt32).toUInt32.toUInt16.toUInt32.toInt32)), (nar .char (p5.toUInt32.toUInt16.toUInt32.toInt32)), (nar .char (((p5.toUInt32 >>> ((16 : Int32) &&& 31).toUInt32).toInt32).toUInt32.toUInt16.toUInt32.toInt32))] : List Int32).getD j 0) := fun j hj => by
      have hj' : j < 0 := hj
      match j, hj' with
      | j + 0, h => exact absurd h (by omega)
    have K73 : ∀ t, Steps p.tables e below (T66.setTop (mkF m 209 #[.val (.int p1), .val (.int p2), .val (.int p3), .val (.int p4), .val (.int p5), .val (.int p6), .val (.int (0 : Int32)), .val (.ref b2), .val (.ref b30), .val (.int sa), .val (.int ea), .val (.int nl), .val (.ref b38)] [(.int ea), (.int sa), (.int nl), (.int (0 : Int32)), (.ref b2), (.ref b38)])) t → Steps p.tables e below G t := by
      intro t k
      refine K72 t ?_
      show Steps p.tables e below (T66.setTop (mkF m 198 #[.val (.int p1), .val (.int p2), .val (.int p3), .val (.int p4), .val (.int p5), .val (.int p6), .val (.int (0 : Int32)), .val (.ref b2), .val (.ref b30), .val (.int sa), .val (.int ea), .val (.int nl), .val (.ref b38)] [])) _
      refine XS.aload X66.here hx rfl (hb hby at_198) rfl rfl ?_
      show Steps p.tables e below (T66.setTop (mkF m 200 #[.val (.int p1), .val (.int p2), .val (.int p3), .val (.int p4), .val (.int p5), .val (.int p6), .val (.int (0 : Int32)), .val (.ref b2), .val (.ref b30), .val (.int sa), .val (.int ea), .val (.int nl), .val (.ref b38)] [(.ref b38)])) _
      refine XS.aload X66.here hx rfl (hb hby at_200) rfl rfl ?_
      show Steps p.tables e below (T66.setTop (mkF m 202 #[.val (.int p1), .val (.int p2), .val (.int p3), .val (.int p4), .val (.int p5), .val (.int p6), .val (.int (0 : Int32)), .val (.ref b2), .val (.ref b30), .val (.int sa), .val (.int ea), .val (.int nl), .val (.ref b38)] [(.ref b2), (.ref b38)])) _
      refine XS.iconst X66.here hx rfl (hb hby at_202) ?_
      show Steps p.tables e below (T66.setTop (mkF m 203 #[.val (.int p1), .val (.int p2), .val (.int p3), .val (.int p4), .val (.int p5), .val (.int p6), .val (.int (0 : Int32)), .val (.ref b2), .val (.ref b30), .val (.int sa), .val (.int ea), .val (.int nl), .val (.ref b38)] [(.int (0 : Int32)), (.ref b2), (.ref b38)])) _
      refine XS.iload X66.here hx rfl (hb hby at_203) rfl ?_
      show Steps p.tables e below (T66.setTop (mkF m 205 #[.val (.int p1), .val (.int p2), .val (.int p3), .val (.int p4), .val (.int p5), .val (.int p6), .val (.int (0 : Int32)), .val (.ref b2), .val (.ref b30), .val (.int sa), .val (.int ea), .val (.int nl), .val (.ref b38)] [(.int nl), (.int (0 : Int32)), (.ref b2), (.ref b38)])) _
      refine XS.iload X66.here hx rfl (hb hby at_205) rfl ?_
      show Steps p.tables e below (T66.setTop (mkF m 207 #[.val (.int p1), .val (.int p2), .val (.int p3), .val (.int p4), .val (.int p5), .val (.int p6), .val (.int (0 : Int32)), .val (.ref b2), .val (.ref b30), .val (.int sa), .val (.int ea), .val (.int nl), .val (.ref b38)] [(.int sa), (.int nl), (.int (0 : Int32)), (.ref b2), (.ref b38)])) _
      refine XS.iload X66.here hx rfl (hb hby at_207) rfl ?_
      show Steps p.tables e below (T66.setTop (mkF m 209 #[.val (.int p1), .val (.int p2), .val (.int p3), .val (.int p4), .val (.int p5), .val (.int p6), .val (.int (0 : Int32)), .val (.ref b2), .val (.ref b30), .val (.int sa), .val (.int ea), .val (.int nl), .val (.ref b38)] [(.int ea), (.int sa), (.int nl), (.int (0 : Int32)), (.ref b2), (.ref b38)])) _
      exact k
    obtain ⟨_, _, ⟨T74, L74, kk74, nn74⟩, -, X74, ⟨Lc74, hQ74, lq74, yq74, zq74⟩, st74⟩ := Jvm.LawKit.callS X66 hx (y := (⟨"org/arborlog/pattern/LineTextDeletePinLaw", "slotOk", "([C[CIIII)Z"⟩ : MethodName)) hown (mvT hZ (hw _ (List.mem_of_getElem? (i := 34) rfl))) (mvT hZ (hw _ (List.mem_of_getElem? (i := 35) rfl))) (mvT hZ (hw _ (List.mem_of_getElem? (i := 36) rfl))) (mvT hZ (hw _ (List.mem_of_getElem? (i := 37) rfl))) (by decide) (backOf (W := 0) (rm6 l Z a0 hw [] b38 b2 (0 : Int32) nl sa ea kb38 kn2 (p6 &&& (7 : Int32)) vs52 [(.int (nar .char (p4.toUInt32.toUInt16.toUInt32.toInt32))), (.int (nar .char (((p4.toUInt32 >>> ((16 : Int32) &&& 31).toUInt32).toInt32).toUInt32.toUInt16.toUInt32.toInt32))), (.int (nar .char (p5.toUInt32.toUInt16.toUInt32.toInt32))), (.int (nar .char (((p5.toUInt32 >>> ((16 : Int32) &&& 31).toUInt32).toInt32).toUInt32.toUInt16.toUInt32.toInt32)))] T52.heap n0 Z56 Vb52 f54 (own_slot 0 rfl (by decide) hB hc7.1 h_nl hA52 hB52 hf)) hZ (hw _ (List.mem_of_getElem? (i := 37) rfl)) (hw _ (List.mem_of_getElem? (i := 36) rfl)) (by decide) (by decide)) (g := (mkF m 209 #[.val (.int p1), .val (.int p2), .val (.int p3), .val (.int p4), .val (.int p5), .val (.int p6), .val (.int (0 : Int32)), .val (.ref b2), .val (.ref b30), .val (.int sa), .val (.int ea), .val (.int nl), .val (.ref b38)] [(.int ea), (.int sa), (.int nl), (.int (0 : Int32)), (.ref b2), (.ref b38)])) rfl (by rw [hml]; rfl) (argsL := [(.ref b38), (.ref b2), (.int (0 : Int32)), (.int nl), (.int sa), (.int ea)]) (rest := []) (lenOf pd_7 rfl) rfl (by show 2 * 0 + _ ≤ _; exact Nat.le_of_eq rfl) (hb hby at_209) (fun _ _ => ⟨rfl, e66, (by decide : 3 + 0 ≤ _), (by decide : 14 + 0 ≤ _)⟩)
    dsimp only [Pt.U, Pt.locs, Pt.cells, Pt.slots] at X74 lq74 yq74 zq74 st74 hQ74
    subst lq74 yq74 zq74
    obtain ⟨rfl, Nq74, e74⟩ := hQ74
    have N75 := Fr.app N67 Nq74
    have K76 : ∀ t, Steps p.tables e below (T74.setTop (mkF m 212 #[.val (.int p1), .val (.int p2), .val (.int p3), .val (.int p4), .val (.int p5), .val (.int p6), .val (.int (0 : Int32)), .val (.ref b2), .val (.ref b30), .val (.int sa), .val (.int ea), .val (.int nl), .val (.ref b38)] [(.int (1 : Int32))])) t → Steps p.tables e below G t := fun t k => K73 t (st74 _ k)
    have K77 : ∀ t, Steps p.tables e below (T74.setTop (mkF m 226 #[.val (.int p1), .val (.int p2), .val (.int p3), .val (.int p4), .val (.int p5), .val (.int p6), .val (.int (0 : Int32)), .val (.ref b2), .val (.ref b30), .val (.int sa), .val (.int ea), .val (.int nl), .val (.ref b38)] [(.int ea), (.int sa), (.int nl), (.int (1 : Int32)), (.ref b2), (.ref b38)])) t → Steps p.tables e below G t := by
      intro t k
      refine K76 t ?_
      show Steps p.tables e below (T74.setTop (mkF m 212 #[.val (.int p1), .val (.int p2), .val (.int p3), .val (.int p4), .val (.int p5), .val (.int p6), .val (.int (0 : Int32)), .val (.ref b2), .val (.ref b30), .val (.int sa), .val (.int ea), .val (.int nl), .val (.ref b38)] [(.int (1 : Int32))])) _
      refine XS.ifNo X74.here hx rfl (hb hby at_212) rfl ((if0 _ _).trans (feq (by decide)).1) ?_
      show Steps p.tables e below (T74.setTop (mkF m 215 #[.val (.int p1), .val (.int p2), .val (.int p3), .val (.int p4), .val (.int p5), .val (.int p6), .val (.int (0 : Int32)), .val (.ref b2), .val (.ref b30), .val (.int sa), .val (.int ea), .val (.int nl), .val (.ref b38)] [])) _
      refine XS.aload X74.here hx rfl (hb hby at_215) rfl rfl ?_
      show Steps p.tables e below (T74.setTop (mkF m 217 #[.val (.int p1), .val (.int p2), .val (.int p3), .val (.int p4), .val (.int p5), .val (.int p6), .val (.int (0 : Int32)), .val (.ref b2), .val (.ref b30), .val (.int sa), .val (.int ea), .val (.int nl), .val (.ref b38)] [(.ref b38)])) _
      refine XS.aload X74.here hx rfl (hb hby at_217) rfl rfl ?_
      show Steps p.tables e below (T74.setTop (mkF m 219 #[.val (.int p1), .val (.int p2), .val (.int p3), .val (.int p4), .val (.int p5), .val (.int p6), .val (.int (0 : Int32)), .val (.ref b2), .val (.ref b30), .val (.int sa), .val (.int ea), .val (.int nl), .val (.ref b38)] [(.ref b2), (.ref b38)])) _
      refine XS.iconst X74.here hx rfl (hb hby at_219) ?_
      show Steps p.tables e below (T74.setTop (mkF m 220 #[.val (.int p1), .val (.int p2), .val (.int p3), .val (.int p4), .val (.int p5), .val (.int p6), .val (.int (0 : Int32)), .val (.ref b2), .val (.ref b30), .val (.int sa), .val (.int ea), .val (.int nl), .val (.ref b38)] [(.int (1 : Int32)), (.ref b2), (.ref b38)])) _
      refine XS.iload X74.here hx rfl (hb hby at_220) rfl ?_
      show Steps p.tables e below (T74.setTop (mkF m 222 #[.val (.int p1), .val (.int p2), .val (.int p3), .val (.int p4), .val (.int p5), .val (.int p6), .val (.int (0 : Int32)), .val (.ref b2), .val (.ref b30), .val (.int sa), .val (.int ea), .val (.int nl), .val (.ref b38)] [(.int nl), (.int (1 : Int32)), (.ref b2), (.ref b38)])) _
      refine XS.iload X74.here hx rfl (hb hby at_222) rfl ?_
      show Steps p.tables e below (T74.setTop (mkF m 224 #[.val (.int p1), .val (.int p2), .val (.int p3), .val (.int p4), .val (.int p5), .val (.int p6), .val (.int (0 : Int32)), .val (.ref b2), .val (.ref b30), .val (.int sa), .val (.int ea), .val (.int nl), .val (.ref b38)] [(.int sa), (.int nl), (.int (1 : Int32)), (.ref b2), (.ref b38)])) _
      refine XS.iload X74.here hx rfl (hb hby at_224) rfl ?_
      show Steps p.tables e below (T74.setTop (mkF m 226 #[.val (.int p1), .val (.int p2), .val (.int p3), .val (.int p4), .val (.int p5), .val (.int p6), .val (.int (0 : Int32)), .val (.ref b2), .val (.ref b30), .val (.int sa), .val (.int ea), .val (.int nl), .val (.ref b38)] [(.int ea), (.int sa), (.int nl), (.int (1 : Int32)), (.ref b2), (.ref b38)])) _
      exact k
    obtain ⟨_, _, ⟨T78, L78, kk78, nn78⟩, -, X78, ⟨Lc78, hQ78, lq78, yq78, zq78⟩, st78⟩ := Jvm.LawKit.callS X74 hx (y := (⟨"org/arborlog/pattern/LineTextDeletePinLaw", "slotOk", "([C[CIIII)Z"⟩ : MethodName)) hown (mvT hZ (hw _ (List.mem_of_getElem? (i := 34) rfl))) (mvT hZ (hw _ (List.mem_of_getElem? (i := 35) rfl))) (mvT hZ (hw _ (List.mem_of_getElem? (i := 36) rfl))) (mvT hZ (hw _ (List.mem_of_getElem? (i := 37) rfl))) (by decide) (backOf (W := 0) (rm6 l Z a0 hw [] b38 b2 (1 : Int32) nl sa ea kb38 kn2 (p6 &&& (7 : Int32)) vs52 [(.int (nar .char (p4.toUInt32.toUInt16.toUInt32.toInt32))), (.int (nar .char (((p4.toUInt32 >>> ((16 : Int32) &&& 31).toUInt32).toInt32).toUInt32.toUInt16.toUInt32.toInt32))), (.int (nar .char (p5.toUInt32.toUInt16.toUInt32.toInt32))), (.int (nar .char (((p5.toUInt32 >>> ((16 : Int32) &&& 31).toUInt32).toInt32).toUInt32.toUInt16.toUInt32.toInt32)))] T52.heap n0 Z56 Vb52 f54 (own_slot 1 rfl (by decide) hB hc7.1 h_nl hA52 hB52 hf)) hZ (hw _ (List.mem_of_getElem? (i := 37) rfl)) (hw _ (List.mem_of_getElem? (i := 36) rfl)) (by decide) (by decide)) (g := (mkF m 226 #[.val (.int p1), .val (.int p2), .val (.int p3), .val (.int p4), .val (.int p5), .val (.int p6), .val (.int (0 : Int32)), .val (.ref b2), .val (.ref b30), .val (.int sa), .val (.int ea), .val (.int nl), .val (.ref b38)] [(.int ea), (.int sa), (.int nl), (.int (1 : Int32)), (.ref b2), (.ref b38)])) rfl (by rw [hml]; rfl) (argsL := [(.ref b38), (.ref b2), (.int (1 : Int32)), (.int nl), (.int sa), (.int ea)]) (rest := []) (lenOf pd_7 rfl) rfl (by show 2 * 0 + _ ≤ _; exact Nat.le_of_eq rfl) (hb hby at_226) (fun _ _ => ⟨rfl, e74, (by decide : 3 + 0 ≤ _), (by decide : 14 + 0 ≤ _)⟩)
    dsimp only [Pt.U, Pt.locs, Pt.cells, Pt.slots] at X78 lq78 yq78 zq78 st78 hQ78
    subst lq78 yq78 zq78
    obtain ⟨rfl, Nq78, e78⟩ := hQ78
    have N79 := Fr.app N75 Nq78
    have K80 : ∀ t, Steps p.tables e below (T78.setTop (mkF m 229 #[.val (.int p1), .val (.int p2), .val (.int p3), .val (.int p4), .val (.int p5), .val (.int p6), .val (.int (0 : Int32)), .val (.ref b2), .val (.ref b30), .val (.int sa), .val (.int ea), .val (.int nl), .val (.ref b38)] [(.int (1 : Int32))])) t → Steps p.tables e below G t := fun t k => K77 t (st78 _ k)
    have K81 : ∀ t, Steps p.tables e below (T78.setTop (mkF m 243 #[.val (.int p1), .val (.int p2), .val (.int p3), .val (.int p4), .val (.int p5), .val (.int p6), .val (.int (0 : Int32)), .val (.ref b2), .val (.ref b30), .val (.int sa), .val (.int ea), .val (.int nl), .val (.ref b38)] [(.int ea), (.int sa), (.int nl), (.int (2 : Int32)), (.ref b2), (.ref b38)])) t → Steps p.tables e below G t := by
      intro t k
      refine K80 t ?_
      show Steps p.tables e below (T78.setTop (mkF m 229 #[.val (.int p1), .val (.int p2), .val (.int p3), .val (.int p4), .val (.int p5), .val (.int p6), .val (.int (0 : Int32)), .val (.ref b2), .val (.ref b30), .val (.int sa), .val (.int ea), .val (.int nl), .val (.ref b38)] [(.int (1 : Int32))])) _
      refine XS.ifNo X78.here hx rfl (hb hby at_229) rfl ((if0 _ _).trans (feq (by decide)).1) ?_
      show Steps p.tables e below (T78.setTop (mkF m 232 #[.val (.int p1), .val (.int p2), .val (.int p3), .val (.int p4), .val (.int p5), .val (.int p6), .val (.int (0 : Int32)), .val (.ref b2), .val (.ref b30), .val (.int sa), .val (.int ea), .val (.int nl), .val (.ref b38)] [])) _
      refine XS.aload X78.here hx rfl (hb hby at_232) rfl rfl ?_
      show Steps p.tables e below (T78.setTop (mkF m 234 #[.val (.int p1), .val (.int p2), .val (.int p3), .val (.int p4), .val (.int p5), .val (.int p6), .val (.int (0 : Int32)), .val (.ref b2), .val (.ref b30), .val (.int sa), .val (.int ea), .val (.int nl), .val (.ref b38)] [(.ref b38)])) _
      refine XS.aload X78.here hx rfl (hb hby at_234) rfl rfl ?_
      show Steps p.tables e below (T78.setTop (mkF m 236 #[.val (.int p1), .val (.int p2), .val (.int p3), .val (.int p4), .val (.int p5), .val (.int p6), .val (.int (0 : Int32)), .val (.ref b2), .val (.ref b30), .val (.int sa), .val (.int ea), .val (.int nl), .val (.ref b38)] [(.ref b2), (.ref b38)])) _
      refine XS.iconst X78.here hx rfl (hb hby at_236) ?_
      show Steps p.tables e below (T78.setTop (mkF m 237 #[.val (.int p1), .val (.int p2), .val (.int p3), .val (.int p4), .val (.int p5), .val (.int p6), .val (.int (0 : Int32)), .val (.ref b2), .val (.ref b30), .val (.int sa), .val (.int ea), .val (.int nl), .val (.ref b38)] [(.int (2 : Int32)), (.ref b2), (.ref b38)])) _
      refine XS.iload X78.here hx rfl (hb hby at_237) rfl ?_
      show Steps p.tables e below (T78.setTop (mkF m 239 #[.val (.int p1), .val (.int p2), .val (.int p3), .val (.int p4), .val (.int p5), .val (.int p6), .val (.int (0 : Int32)), .val (.ref b2), .val (.ref b30), .val (.int sa), .val (.int ea), .val (.int nl), .val (.ref b38)] [(.int nl), (.int (2 : Int32)), (.ref b2), (.ref b38)])) _
      refine XS.iload X78.here hx rfl (hb hby at_239) rfl ?_
      show Steps p.tables e below (T78.setTop (mkF m 241 #[.val (.int p1), .val (.int p2), .val (.int p3), .val (.int p4), .val (.int p5), .val (.int p6), .val (.int (0 : Int32)), .val (.ref b2), .val (.ref b30), .val (.int sa), .val (.int ea), .val (.int nl), .val (.ref b38)] [(.int sa), (.int nl), (.int (2 : Int32)), (.ref b2), (.ref b38)])) _
      refine XS.iload X78.here hx rfl (hb hby at_241) rfl ?_
      show Steps p.tables e below (T78.setTop (mkF m 243 #[.val (.int p1), .val (.int p2), .val (.int p3), .val (.int p4), .val (.int p5), .val (.int p6), .val (.int (0 : Int32)), .val (.ref b2), .val (.ref b30), .val (.int sa), .val (.int ea), .val (.int nl), .val (.ref b38)] [(.int ea), (.int sa), (.int nl), (.int (2 : Int32)), (.ref b2), (.ref b38)])) _
      exact k
    obtain ⟨_, _, ⟨T82, L82, kk82, nn82⟩, -, X82, ⟨Lc82, hQ82, lq82, yq82, zq82⟩, st82⟩ := Jvm.LawKit.callS X78 hx (y := (⟨"org/arborlog/pattern/LineTextDeletePinLaw", "slotOk", "([C[CIIII)Z"⟩ : MethodName)) hown (mvT hZ (hw _ (List.mem_of_getElem? (i := 34) rfl))) (mvT hZ (hw _ (List.mem_of_getElem? (i := 35) rfl))) (mvT hZ (hw _ (List.mem_of_getElem? (i := 36) rfl))) (mvT hZ (hw _ (List.mem_of_getElem? (i := 37) rfl))) (by decide) (backOf (W := 0) (rm6 l Z a0 hw [] b38 b2 (2 : Int32) nl sa ea kb38 kn2 (p6 &&& (7 : Int32)) vs52 [(.int (nar .char (p4.toUInt32.toUInt16.toUInt32.toInt32))), (.int (nar .char (((p4.toUInt32 >>> ((16 : Int32) &&& 31).toUInt32).toInt32).toUInt32.toUInt16.toUInt32.toInt32))), (.int (nar .char (p5.toUInt32.toUInt16.toUInt32.toInt32))), (.int (nar .char (((p5.toUInt32 >>> ((16 : Int32) &&& 31).toUInt32).toInt32).toUInt32.toUInt16.toUInt32.toInt32)))] T52.heap n0 Z56 Vb52 f54 (own_slot 2 rfl (by decide) hB hc7.1 h_nl hA52 hB52 hf)) hZ (hw _ (List.mem_of_getElem? (i := 37) rfl)) (hw _ (List.mem_of_getElem? (i := 36) rfl)) (by decide) (by decide)) (g := (mkF m 243 #[.val (.int p1), .val (.int p2), .val (.int p3), .val (.int p4), .val (.int p5), .val (.int p6), .val (.int (0 : Int32)), .val (.ref b2), .val (.ref b30), .val (.int sa), .val (.int ea), .val (.int nl), .val (.ref b38)] [(.int ea), (.int sa), (.int nl), (.int (2 : Int32)), (.ref b2), (.ref b38)])) rfl (by rw [hml]; rfl) (argsL := [(.ref b38), (.ref b2), (.int (2 : Int32)), (.int nl), (.int sa), (.int ea)]) (rest := []) (lenOf pd_7 rfl) rfl (by show 2 * 0 + _ ≤ _; exact Nat.le_of_eq rfl) (hb hby at_243) (fun _ _ => ⟨rfl, e78, (by decide : 3 + 0 ≤ _), (by decide : 14 + 0 ≤ _)⟩)
    dsimp only [Pt.U, Pt.locs, Pt.cells, Pt.slots] at X82 lq82 yq82 zq82 st82 hQ82
    subst lq82 yq82 zq82
    obtain ⟨rfl, Nq82, e82⟩ := hQ82
    have N83 := Fr.app N79 Nq82
    have K84 : ∀ t, Steps p.tables e below (T82.setTop (mkF m 246 #[.val (.int p1), .val (.int p2), .val (.int p3), .val (.int p4), .val (.int p5), .val (.int p6), .val (.int (0 : Int32)), .val (.ref b2), .val (.ref b30), .val (.int sa), .val (.int ea), .val (.int nl), .val (.ref b38)] [(.int (1 : Int32))])) t → Steps p.tables e below G t := fun t k => K81 t (st82 _ k)
    have K85 : ∀ t, Steps p.tables e below (T82.setTop (mkF m 260 #[.val (.int p1), .val (.int p2), .val (.int p3), .val (.int p4), .val (.int p5), .val (.int p6), .val (.int (0 : Int32)), .val (.ref b2), .val (.ref b30), .val (.int sa), .val (.int ea), .val (.int nl), .val (.ref b38)] [(.int ea), (.int sa), (.int nl), (.int (3 : Int32)), (.ref b2), (.ref b38)])) t → Steps p.tables e below G t := by
      intro t k
      refine K84 t ?_
      show Steps p.tables e below (T82.setTop (mkF m 246 #[.val (.int p1), .val (.int p2), .val (.int p3), .val (.int p4), .val (.int p5), .val (.int p6), .val (.int (0 : Int32)), .val (.ref b2), .val (.ref b30), .val (.int sa), .val (.int ea), .val (.int nl), .val (.ref b38)] [(.int (1 : Int32))])) _
      refine XS.ifNo X82.here hx rfl (hb hby at_246) rfl ((if0 _ _).trans (feq (by decide)).1) ?_
      show Steps p.tables e below (T82.setTop (mkF m 249 #[.val (.int p1), .val (.int p2), .val (.int p3), .val (.int p4), .val (.int p5), .val (.int p6), .val (.int (0 : Int32)), .val (.ref b2), .val (.ref b30), .val (.int sa), .val (.int ea), .val (.int nl), .val (.ref b38)] [])) _
      refine XS.aload X82.here hx rfl (hb hby at_249) rfl rfl ?_
      show Steps p.tables e below (T82.setTop (mkF m 251 #[.val (.int p1), .val (.int p2), .val (.int p3), .val (.int p4), .val (.int p5), .val (.int p6), .val (.int (0 : Int32)), .val (.ref b2), .val (.ref b30), .val (.int sa), .val (.int ea), .val (.int nl), .val (.ref b38)] [(.ref b38)])) _
      refine XS.aload X82.here hx rfl (hb hby at_251) rfl rfl ?_
      show Steps p.tables e below (T82.setTop (mkF m 253 #[.val (.int p1), .val (.int p2), .val (.int p3), .val (.int p4), .val (.int p5), .val (.int p6), .val (.int (0 : Int32)), .val (.ref b2), .val (.ref b30), .val (.int sa), .val (.int ea), .val (.int nl), .val (.ref b38)] [(.ref b2), (.ref b38)])) _
      refine XS.iconst X82.here hx rfl (hb hby at_253) ?_
      show Steps p.tables e below (T82.setTop (mkF m 254 #[.val (.int p1), .val (.int p2), .val (.int p3), .val (.int p4), .val (.int p5), .val (.int p6), .val (.int (0 : Int32)), .val (.ref b2), .val (.ref b30), .val (.int sa), .val (.int ea), .val (.int nl), .val (.ref b38)] [(.int (3 : Int32)), (.ref b2), (.ref b38)])) _
      refine XS.iload X82.here hx rfl (hb hby at_254) rfl ?_
      show Steps p.tables e below (T82.setTop (mkF m 256 #[.val (.int p1), .val (.int p2), .val (.int p3), .val (.int p4), .val (.int p5), .val (.int p6), .val (.int (0 : Int32)), .val (.ref b2), .val (.ref b30), .val (.int sa), .val (.int ea), .val (.int nl), .val (.ref b38)] [(.int nl), (.int (3 : Int32)), (.ref b2), (.ref b38)])) _
      refine XS.iload X82.here hx rfl (hb hby at_256) rfl ?_
      show Steps p.tables e below (T82.setTop (mkF m 258 #[.val (.int p1), .val (.int p2), .val (.int p3), .val (.int p4), .val (.int p5), .val (.int p6), .val (.int (0 : Int32)), .val (.ref b2), .val (.ref b30), .val (.int sa), .val (.int ea), .val (.int nl), .val (.ref b38)] [(.int sa), (.int nl), (.int (3 : Int32)), (.ref b2), (.ref b38)])) _
      refine XS.iload X82.here hx rfl (hb hby at_258) rfl ?_
      show Steps p.tables e below (T82.setTop (mkF m 260 #[.val (.int p1), .val (.int p2), .val (.int p3), .val (.int p4), .val (.int p5), .val (.int p6), .val (.int (0 : Int32)), .val (.ref b2), .val (.ref b30), .val (.int sa), .val (.int ea), .val (.int nl), .val (.ref b38)] [(.int ea), (.int sa), (.int nl), (.int (3 : Int32)), (.ref b2), (.ref b38)])) _
      exact k
    obtain ⟨_, _, ⟨T86, L86, kk86, nn86⟩, -, X86, ⟨Lc86, hQ86, lq86, yq86, zq86⟩, st86⟩ := Jvm.LawKit.callS X82 hx (y := (⟨"org/arborlog/pattern/LineTextDeletePinLaw", "slotOk", "([C[CIIII)Z"⟩ : MethodName)) hown (mvT hZ (hw _ (List.mem_of_getElem? (i := 34) rfl))) (mvT hZ (hw _ (List.mem_of_getElem? (i := 35) rfl))) (mvT hZ (hw _ (List.mem_of_getElem? (i := 36) rfl))) (mvT hZ (hw _ (List.mem_of_getElem? (i := 37) rfl))) (by decide) (backOf (W := 0) (rm6 l Z a0 hw [] b38 b2 (3 : Int32) nl sa ea kb38 kn2 (p6 &&& (7 : Int32)) vs52 [(.int (nar .char (p4.toUInt32.toUInt16.toUInt32.toInt32))), (.int (nar .char (((p4.toUInt32 >>> ((16 : Int32) &&& 31).toUInt32).toInt32).toUInt32.toUInt16.toUInt32.toInt32))), (.int (nar .char (p5.toUInt32.toUInt16.toUInt32.toInt32))), (.int (nar .char (((p5.toUInt32 >>> ((16 : Int32) &&& 31).toUInt32).toInt32).toUInt32.toUInt16.toUInt32.toInt32)))] T52.heap n0 Z56 Vb52 f54 (own_slot 3 rfl (by decide) hB hc7.1 h_nl hA52 hB52 hf)) hZ (hw _ (List.mem_of_getElem? (i := 37) rfl)) (hw _ (List.mem_of_getElem? (i := 36) rfl)) (by decide) (by decide)) (g := (mkF m 260 #[.val (.int p1), .val (.int p2), .val (.int p3), .val (.int p4), .val (.int p5), .val (.int p6), .val (.int (0 : Int32)), .val (.ref b2), .val (.ref b30), .val (.int sa), .val (.int ea), .val (.int nl), .val (.ref b38)] [(.int ea), (.int sa), (.int nl), (.int (3 : Int32)), (.ref b2), (.ref b38)])) rfl (by rw [hml]; rfl) (argsL := [(.ref b38), (.ref b2), (.int (3 : Int32)), (.int nl), (.int sa), (.int ea)]) (rest := []) (lenOf pd_7 rfl) rfl (by show 2 * 0 + _ ≤ _; exact Nat.le_of_eq rfl) (hb hby at_260) (fun _ _ => ⟨rfl, e82, (by decide : 3 + 0 ≤ _), (by decide : 14 + 0 ≤ _)⟩)
    dsimp only [Pt.U, Pt.locs, Pt.cells, Pt.slots] at X86 lq86 yq86 zq86 st86 hQ86
    subst lq86 yq86 zq86
    obtain ⟨rfl, Nq86, e86⟩ := hQ86
    have N87 := Fr.app N83 Nq86
    have K88 : ∀ t, Steps p.tables e below (T86.setTop (mkF m 263 #[.val (.int p1), .val (.int p2), .val (.int p3), .val (.int p4), .val (.int p5), .val (.int p6), .val (.int (0 : Int32)), .val (.ref b2), .val (.ref b30), .val (.int sa), .val (.int ea), .val (.int nl), .val (.ref b38)] [(.int (1 : Int32))])) t → Steps p.tables e below G t := fun t k => K85 t (st86 _ k)
    obtain ⟨fs, hr, hrun, hended, hW, hsame⟩ := X86.leave (v := some (.int (1 : Int32))) (fun h => by rw [Bd.returns] at h; cases h)
    have KF := K88
    rw [hG] at KF
    refine ⟨_, _, KF _ ?_, hrun, hended, _, _, rfl, ?_, ⟨_, rfl⟩, hW, hsame.mono (by decide) (by decide)⟩
    · show Steps p.tables e below (T86.setTop (mkF m 263 #[.val (.int p1), .val (.int p2), .val (.int p3), .val (.int p4), .val (.int p5), .val (.int p6), .val (.int (0 : Int32)), .val (.ref b2), .val (.ref b30), .val (.int sa), .val (.int ea), .val (.int nl), .val (.ref b38)] [(.int (1 : Int32))])) _
      refine XS.ifNo X86.here hx rfl (hb hby at_263) rfl ((if0 _ _).trans (feq (by decide)).1) ?_
      show Steps p.tables e below (T86.setTop (mkF m 266 #[.val (.int p1), .val (.int p2), .val (.int p3), .val (.int p4), .val (.int p5), .val (.int p6), .val (.int (0 : Int32)), .val (.ref b2), .val (.ref b30), .val (.int sa), .val (.int ea), .val (.int nl), .val (.ref b38)] [])) _
      refine XS.iconst X86.here hx rfl (hb hby at_266) ?_
      show Steps p.tables e below (T86.setTop (mkF m 267 #[.val (.int p1), .val (.int p2), .val (.int p3), .val (.int p4), .val (.int p5), .val (.int p6), .val (.int (0 : Int32)), .val (.ref b2), .val (.ref b30), .val (.int sa), .val (.int ea), .val (.int nl), .val (.ref b38)] [(.int (1 : Int32))])) _
      refine XS.goto X86.here hx rfl (pc0 := 267) (pc' := 271) rfl (hb hby at_267) (by decide) (by decide) ?_
      show Steps p.tables e below (T86.setTop (mkF m 271 #[.val (.int p1), .val (.int p2), .val (.int p3), .val (.int p4), .val (.int p5), .val (.int p6), .val (.int (0 : Int32)), .val (.ref b2), .val (.ref b30), .val (.int sa), .val (.int ea), .val (.int nl), .val (.ref b38)] [(.int (1 : Int32))])) _
      exact retN X86 hx (t := .boolean) Bd.returns (by simp) (hb hby at_271) hr
    · show Q0 n0 _ T86.heap _
      rw [e86]
      exact ⟨rfl, N87⟩
  · have K89 : ∀ t, Steps p.tables e below (T38.setTop (mkF m 59 #[.val (.int p1), .val (.int p2), .val (.int p3), .val (.int p4), .val (.int p5), .val (.int p6), .val (.int (1 : Int32)), .val (.ref b2), .val (.ref b30), .unset, .unset, .unset, .unset] [])) t → Steps p.tables e below G t := by have q := K45; rw [hN] at q; exact q
    have K90 : ∀ t, Steps p.tables e below (T38.setTop (mkF m 69 #[.val (.int p1), .val (.int p2), .val (.int p3), .val (.int p4), .val (.int p5), .val (.int p6), .val (.int (1 : Int32)), .val (.ref b2), .val (.ref b30), .unset, .unset, .unset, .unset] [(.int (0 : Int32)), (.ref b2), (.ref b30)])) t → Steps p.tables e below G t := by
      intro t k
      refine K89 t ?_
      show Steps p.tables e below (T38.setTop (mkF m 59 #[.val (.int p1), .val (.int p2), .val (.int p3), .val (.int p4), .val (.int p5), .val (.int p6), .val (.int (1 : Int32)), .val (.ref b2), .val (.ref b30), .unset, .unset, .unset, .unset] [])) _
      refine XS.iload X38.here hx rfl (hb hby at_59) rfl ?_
      show Steps p.tables e below (T38.setTop (mkF m 61 #[.val (.int p1), .val (.int p2), .val (.int p3), .val (.int p4), .val (.int p5), .val (.int p6), .val (.int (1 : Int32)), .val (.ref b2), .val (.ref b30), .unset, .unset, .unset, .unset] [(.int (1 : Int32))])) _
      refine XS.ifNo X38.here hx rfl (hb hby at_61) rfl ((if0 _ _).trans (tlt (by decide)).2.2.2) ?_
      show Steps p.tables e below (T38.setTop (mkF m 64 #[.val (.int p1), .val (.int p2), .val (.int p3), .val (.int p4), .val (.int p5), .val (.int p6), .val (.int (1 : Int32)), .val (.ref b2), .val (.ref b30), .unset, .unset, .unset, .unset] [])) _
      refine XS.aload X38.here hx rfl (hb hby at_64) rfl rfl ?_
      show Steps p.tables e below (T38.setTop (mkF m 66 #[.val (.int p1), .val (.int p2), .val (.int p3), .val (.int p4), .val (.int p5), .val (.int p6), .val (.int (1 : Int32)), .val (.ref b2), .val (.ref b30), .unset, .unset, .unset, .unset] [(.ref b30)])) _
      refine XS.aload X38.here hx rfl (hb hby at_66) rfl rfl ?_
      show Steps p.tables e below (T38.setTop (mkF m 68 #[.val (.int p1), .val (.int p2), .val (.int p3), .val (.int p4), .val (.int p5), .val (.int p6), .val (.int (1 : Int32)), .val (.ref b2), .val (.ref b30), .unset, .unset, .unset, .unset] [(.ref b2), (.ref b30)])) _
      refine XS.iconst X38.here hx rfl (hb hby at_68) ?_
      show Steps p.tables e below (T38.setTop (mkF m 69 #[.val (.int p1), .val (.int p2), .val (.int p3), .val (.int p4), .val (.int p5), .val (.int p6), .val (.int (1 : Int32)), .val (.ref b2), .val (.ref b30), .unset, .unset, .unset, .unset] [(.int (0 : Int32)), (.ref b2), (.ref b30)])) _
      exact k
    obtain ⟨cl91, Ar91, qc91, S91, M91, Ha91, Ga91⟩ := id f40
    have hin91 : ¬ ((0 : Int32) < 0 ∨ cl91.slots.size ≤ ((0 : Int32)).toNatClampNeg) := inb_of S91 ⟨by decide, by decide⟩
    have hat91 : cl91.slots[((0 : Int32)).toNatClampNeg]? = some (.int (nar .char (p4.toUInt32.toUInt16.toUInt32.toInt32))) := Ha91.at hin91 rfl
    have K92 : ∀ t, Steps p.tables e below (T38.setTop (mkF m 70 #[.val (.int p1), .val (.int p2), .val (.int p3), .val (.int p4), .val (.int p5), .val (.int p6), .val (.int (1 : Int32)), .val (.ref b2), .val (.ref b30), .unset, .unset, .unset, .unset] [(.int (nar .char (p4.toUInt32.toUInt16.toUInt32.toInt32))), (.ref b30)])) t → Steps p.tables e below G t := fun t k => K90 t (X38.caload hx (j := (0 : Int32)) (v := (.int (nar .char (p4.toUInt32.toUInt16.toUInt32.toInt32)))) Ar91.1 (State.isArrayOf_alike hZ.alike Ar91.2.1) Ar91.2.2 hin91 hat91 (g := (mkF m 69 #[.val (.int p1), .val (.int p2), .val (.int p3), .val (.int p4), .val (.int p5), .val (.int p6), .val (.int (1 : Int32)), .val (.ref b2), .val (.ref b30), .unset, .unset, .unset, .unset] [(.int (0 : Int32)), (.ref b2), (.ref b30)])) rfl rfl (hb hby at_69) _ k)
    obtain ⟨cq93, kq93, q93a, q93b, q93c⟩ := isOf hZ rfl E38'
    obtain ⟨_, _, ⟨T93, L93, kk93, nn93⟩, -, X93, ⟨Lc93, hQ93, lq93, yq93, zq93⟩, st93⟩ := X38.virtualBack hx (y := (⟨"org/arborlog/pattern/LineText", "append", "(C)Lorg/arborlog/pattern/LineText;"⟩ : MethodName)) (z := (⟨"org/arborlog/pattern/LineText", "append", "(C)Lorg/arborlog/pattern/LineText;"⟩ : MethodName)) hown (mvT hZ (hw _ (List.mem_of_getElem? (i := 38) rfl))) (mvT hZ (hw _ (List.mem_of_getElem? (i := 39) rfl))) (notFace_of_selects (args := #[]) (mvT hZ (hw _ (List.mem_of_getElem? (i := 41) rfl)))) (mvT hZ (hw _ (List.mem_of_getElem? (i := 41) rfl))) (mvT hZ (hw _ (List.mem_of_getElem? (i := 40) rfl))) (by decide) (backOf (W := 0) (rm7 l Z a0 hw [] b30 (nar .char (p4.toUInt32.toUInt16.toUInt32.toInt32)) b38 kb38 (p6 &&& (7 : Int32)) (0 : Int32) [] T38.heap n0 Z42 E38' Fc38 Fl38 Vb38 ne_b30_b38 g_b30 g_b38 ⟨by decide, by decide⟩ hc7.1 hc7.2.2) hZ (hw _ (List.mem_of_getElem? (i := 42) rfl)) (hw _ (List.mem_of_getElem? (i := 4) rfl)) (by decide) (by decide)) q93a q93c (g := (mkF m 70 #[.val (.int p1), .val (.int p2), .val (.int p3), .val (.int p4), .val (.int p5), .val (.int p6), .val (.int (1 : Int32)), .val (.ref b2), .val (.ref b30), .unset, .unset, .unset, .unset] [(.int (nar .char (p4.toUInt32.toUInt16.toUInt32.toInt32))), (.ref b30)])) rfl (by rw [hml]; rfl) (Steps.refl _) (argsL := [(.int (nar .char (p4.toUInt32.toUInt16.toUInt32.toInt32)))]) (rest := []) (lenOf pd_8 rfl) rfl (by show 2 * 0 + _ ≤ _; exact Nat.le_of_eq rfl) (hb hby at_70) (fun _ _ => ⟨rfl, rfl, (by decide : 3 + 1 ≤ _), (by decide : 14 + 10 ≤ _)⟩)
    dsimp only [Pt.U, Pt.locs, Pt.cells, Pt.slots] at X93 lq93 yq93 zq93 st93 hQ93
    subst lq93 yq93 zq93
    obtain ⟨b93, kb93, zb93, vs93, rfl, Nq93, K93, ob93, E93', Fc93, Fl93, Vb93, hz93, hc93, hd93⟩ := hQ93
    have N94 := Fr.app N39 Nq93
    have gb93 : n0 ≤ b93 := ob93.elim (fun q => q ▸ g_b38) (fun q => Nat.le_trans Z42 q)
    have sz93 : h0.size ≤ b93 := ob93.elim (fun q => q ▸ sz_b38) (fun q => Nat.le_trans KP43.1 q)
    have ne_b2_b93 : b2 ≠ b93 := ob93.elim (fun q => q ▸ ne_b2_b38) (fun q => Nat.ne_of_lt (Nat.lt_of_lt_of_le f40.lt q))
    have ne_b30_b93 : b30 ≠ b93 := ob93.elim (fun q => q ▸ ne_b30_b38) (fun q => Nat.ne_of_lt (Nat.lt_of_lt_of_le E38'.lt q))
    have f95 := f40.keep K93 (ninS ne_b2_b30 (ninS ne_b2_b38 nin0))
    have f96 := E38'.keep K93
    have Z97 : n0 ≤ T93.heap.size := Nat.le_trans Z42 K93.1
    have KP98 : Keep h0 T93.heap [] := KP43.trans K93 (allS (Or.inr sz_b30) (allS (Or.inr sz_b38) all0))
    have f99 : Fld Z T93.heap b30 "org/arborlog/pattern/LineText" "length" "I" (.int (1 : Int32)) := Fl93
    have ct100 : vs93.getD 0 (Value.int (0 : Int32)) = .int (nar .char (nar .char (p4.toUInt32.toUInt16.toUInt32.toInt32))) := hd93
    have K101 : ∀ t, Steps p.tables e below (T93.setTop (mkF m 73 #[.val (.int p1), .val (.int p2), .val (.int p3), .val (.int p4), .val (.int p5), .val (.int p6), .val (.int (1 : Int32)), .val (.ref b2), .val (.ref b30), .unset, .unset, .unset, .unset] [(.ref b30)])) t → Steps p.tables e below G t := fun t k => K92 t (st93.trans k)
    have K102 : ∀ t, Steps p.tables e below (T93.setTop (mkF m 131 #[.val (.int p1), .val (.int p2), .val (.int p3), .val (.int p4), .val (.int p5), .val (.int p6), .val (.int (1 : Int32)), .val (.ref b2), .val (.ref b30), .unset, .unset, .unset, .unset] [(.int ((p2 &&& (2147483647 : Int32)) % (2 : Int32)))])) t → Steps p.tables e below G t := by
      intro t k
      refine K101 t ?_
      show Steps p.tables e below (T93.setTop (mkF m 73 #[.val (.int p1), .val (.int p2), .val (.int p3), .val (.int p4), .val (.int p5), .val (.int p6), .val (.int (1 : Int32)), .val (.ref b2), .val (.ref b30), .unset, .unset, .unset, .unset] [(.ref b30)])) _
      refine XS.pop X93.here hx rfl (hb hby at_73) rfl rfl ?_
      show Steps p.tables e below (T93.setTop (mkF m 74 #[.val (.int p1), .val (.int p2), .val (.int p3), .val (.int p4), .val (.int p5), .val (.int p6), .val (.int (1 : Int32)), .val (.ref b2), .val (.ref b30), .unset, .unset, .unset, .unset] [])) _
      refine XS.iload X93.here hx rfl (hb hby at_74) rfl ?_
      show Steps p.tables e below (T93.setTop (mkF m 76 #[.val (.int p1), .val (.int p2), .val (.int p3), .val (.int p4), .val (.int p5), .val (.int p6), .val (.int (1 : Int32)), .val (.ref b2), .val (.ref b30), .unset, .unset, .unset, .unset] [(.int (1 : Int32))])) _
      refine XS.iconst X93.here hx rfl (hb hby at_76) ?_
      show Steps p.tables e below (T93.setTop (mkF m 77 #[.val (.int p1), .val (.int p2), .val (.int p3), .val (.int p4), .val (.int p5), .val (.int p6), .val (.int (1 : Int32)), .val (.ref b2), .val (.ref b30), .unset, .unset, .unset, .unset] [(.int (1 : Int32)), (.int (1 : Int32))])) _
      refine XS.icmpYes X93.here hx rfl (pc0 := 77) (pc' := 90) rfl (hb hby at_77) rfl (flt (by decide)).2.2.2 (by decide) (by decide) ?_
      show Steps p.tables e below (T93.setTop (mkF m 90 #[.val (.int p1), .val (.int p2), .val (.int p3), .val (.int p4), .val (.int p5), .val (.int p6), .val (.int (1 : Int32)), .val (.ref b2), .val (.ref b30), .unset, .unset, .unset, .unset] [])) _
      refine XS.iload X93.here hx rfl (hb hby at_90) rfl ?_
      show Steps p.tables e below (T93.setTop (mkF m 92 #[.val (.int p1), .val (.int p2), .val (.int p3), .val (.int p4), .val (.int p5), .val (.int p6), .val (.int (1 : Int32)), .val (.ref b2), .val (.ref b30), .unset, .unset, .unset, .unset] [(.int (1 : Int32))])) _
      refine XS.iconst X93.here hx rfl (hb hby at_92) ?_
      show Steps p.tables e below (T93.setTop (mkF m 93 #[.val (.int p1), .val (.int p2), .val (.int p3), .val (.int p4), .val (.int p5), .val (.int p6), .val (.int (1 : Int32)), .val (.ref b2), .val (.ref b30), .unset, .unset, .unset, .unset] [(.int (2 : Int32)), (.int (1 : Int32))])) _
      refine XS.icmpYes X93.here hx rfl (pc0 := 93) (pc' := 106) rfl (hb hby at_93) rfl (flt (by decide)).2.2.2 (by decide) (by decide) ?_
      show Steps p.tables e below (T93.setTop (mkF m 106 #[.val (.int p1), .val (.int p2), .val (.int p3), .val (.int p4), .val (.int p5), .val (.int p6), .val (.int (1 : Int32)), .val (.ref b2), .val (.ref b30), .unset, .unset, .unset, .unset] [])) _
      refine XS.iload X93.here hx rfl (hb hby at_106) rfl ?_
      show Steps p.tables e below (T93.setTop (mkF m 108 #[.val (.int p1), .val (.int p2), .val (.int p3), .val (.int p4), .val (.int p5), .val (.int p6), .val (.int (1 : Int32)), .val (.ref b2), .val (.ref b30), .unset, .unset, .unset, .unset] [(.int (1 : Int32))])) _
      refine XS.iconst X93.here hx rfl (hb hby at_108) ?_
      show Steps p.tables e below (T93.setTop (mkF m 109 #[.val (.int p1), .val (.int p2), .val (.int p3), .val (.int p4), .val (.int p5), .val (.int p6), .val (.int (1 : Int32)), .val (.ref b2), .val (.ref b30), .unset, .unset, .unset, .unset] [(.int (3 : Int32)), (.int (1 : Int32))])) _
      refine XS.icmpYes X93.here hx rfl (pc0 := 109) (pc' := 122) rfl (hb hby at_109) rfl (flt (by decide)).2.2.2 (by decide) (by decide) ?_
      show Steps p.tables e below (T93.setTop (mkF m 122 #[.val (.int p1), .val (.int p2), .val (.int p3), .val (.int p4), .val (.int p5), .val (.int p6), .val (.int (1 : Int32)), .val (.ref b2), .val (.ref b30), .unset, .unset, .unset, .unset] [])) _
      refine XS.iloadN X93.here hx rfl (hb hby at_122) rfl ?_
      show Steps p.tables e below (T93.setTop (mkF m 123 #[.val (.int p1), .val (.int p2), .val (.int p3), .val (.int p4), .val (.int p5), .val (.int p6), .val (.int (1 : Int32)), .val (.ref b2), .val (.ref b30), .unset, .unset, .unset, .unset] [(.int p2)])) _
      refine X93.ldcInt hx hown (mvT hZ (hw _ (List.mem_of_getElem? (i := 0) rfl))) (g := (mkF m 123 #[.val (.int p1), .val (.int p2), .val (.int p3), .val (.int p4), .val (.int p5), .val (.int p6), .val (.int (1 : Int32)), .val (.ref b2), .val (.ref b30), .unset, .unset, .unset, .unset] [(.int p2)])) rfl (hb hby at_123) _ ?_
      show Steps p.tables e below (T93.setTop (mkF m 125 #[.val (.int p1), .val (.int p2), .val (.int p3), .val (.int p4), .val (.int p5), .val (.int p6), .val (.int (1 : Int32)), .val (.ref b2), .val (.ref b30), .unset, .unset, .unset, .unset] [(.int (2147483647 : Int32)), (.int p2)])) _
      refine XS.iand X93.here hx rfl (hb hby at_125) rfl ?_
      show Steps p.tables e below (T93.setTop (mkF m 126 #[.val (.int p1), .val (.int p2), .val (.int p3), .val (.int p4), .val (.int p5), .val (.int p6), .val (.int (1 : Int32)), .val (.ref b2), .val (.ref b30), .unset, .unset, .unset, .unset] [(.int (p2 &&& (2147483647 : Int32)))])) _
      refine XS.iload X93.here hx rfl (hb hby at_126) rfl ?_
      show Steps p.tables e below (T93.setTop (mkF m 128 #[.val (.int p1), .val (.int p2), .val (.int p3), .val (.int p4), .val (.int p5), .val (.int p6), .val (.int (1 : Int32)), .val (.ref b2), .val (.ref b30), .unset, .unset, .unset, .unset] [(.int (1 : Int32)), (.int (p2 &&& (2147483647 : Int32)))])) _
      refine XS.iconst X93.here hx rfl (hb hby at_128) ?_
      show Steps p.tables e below (T93.setTop (mkF m 129 #[.val (.int p1), .val (.int p2), .val (.int p3), .val (.int p4), .val (.int p5), .val (.int p6), .val (.int (1 : Int32)), .val (.ref b2), .val (.ref b30), .unset, .unset, .unset, .unset] [(.int (1 : Int32)), (.int (1 : Int32)), (.int (p2 &&& (2147483647 : Int32)))])) _
      refine XS.iadd X93.here hx rfl (hb hby at_129) rfl ?_
      show Steps p.tables e below (T93.setTop (mkF m 130 #[.val (.int p1), .val (.int p2), .val (.int p3), .val (.int p4), .val (.int p5), .val (.int p6), .val (.int (1 : Int32)), .val (.ref b2), .val (.ref b30), .unset, .unset, .unset, .unset] [(.int (2 : Int32)), (.int (p2 &&& (2147483647 : Int32)))])) _
      refine iremM X93 hx rfl (hb hby at_130) rfl (by decide) ?_
      show Steps p.tables e below (T93.setTop (mkF m 131 #[.val (.int p1), .val (.int p2), .val (.int p3), .val (.int p4), .val (.int p5), .val (.int p6), .val (.int (1 : Int32)), .val (.ref b2), .val (.ref b30), .unset, .unset, .unset, .unset] [(.int ((p2 &&& (2147483647 : Int32)) % (2 : Int32)))])) _
      exact k
    obtain ⟨sa, h_sa⟩ : ∃ z_ : Int32, z_ = ((p2 &&& (2147483647 : Int32)) % (2 : Int32)) := ⟨_, rfl⟩
    have K103 : ∀ t, Steps p.tables e below (T93.setTop (mkF m 131 #[.val (.int p1), .val (.int p2), .val (.int p3), .val (.int p4), .val (.int p5), .val (.int p6), .val (.int (1 : Int32)), .val (.ref b2), .val (.ref b30), .unset, .unset, .unset, .unset] [(.int sa)])) t → Steps p.tables e below G t := by rw [h_sa]; exact K102
    have hsa := own_st p2 (1 : Int32) (2 : Int32) rfl (by decide) sa h_sa
    have K104 : ∀ t, Steps p.tables e below (T93.setTop (mkF m 148 #[.val (.int p1), .val (.int p2), .val (.int p3), .val (.int p4), .val (.int p5), .val (.int p6), .val (.int (1 : Int32)), .val (.ref b2), .val (.ref b30), .val (.int sa), .unset, .unset, .unset] [(.int (sa + ((p3 &&& (2147483647 : Int32)) % (((1 : Int32) - sa) + (1 : Int32)))))])) t → Steps p.tables e below G t := by
      intro t k
      refine K103 t ?_
      show Steps p.tables e below (T93.setTop (mkF m 131 #[.val (.int p1), .val (.int p2), .val (.int p3), .val (.int p4), .val (.int p5), .val (.int p6), .val (.int (1 : Int32)), .val (.ref b2), .val (.ref b30), .unset, .unset, .unset, .unset] [(.int sa)])) _
      refine XS.istore X93.here hx rfl (hb hby at_131) rfl (l' := #[.val (.int p1), .val (.int p2), .val (.int p3), .val (.int p4), .val (.int p5), .val (.int p6), .val (.int (1 : Int32)), .val (.ref b2), .val (.ref b30), .val (.int sa), .unset, .unset, .unset]) rfl ?_
      show Steps p.tables e below (T93.setTop (mkF m 133 #[.val (.int p1), .val (.int p2), .val (.int p3), .val (.int p4), .val (.int p5), .val (.int p6), .val (.int (1 : Int32)), .val (.ref b2), .val (.ref b30), .val (.int sa), .unset, .unset, .unset] [])) _
      refine XS.iload X93.here hx rfl (hb hby at_133) rfl ?_
      show Steps p.tables e below (T93.setTop (mkF m 135 #[.val (.int p1), .val (.int p2), .val (.int p3), .val (.int p4), .val (.int p5), .val (.int p6), .val (.int (1 : Int32)), .val (.ref b2), .val (.ref b30), .val (.int sa), .unset, .unset, .unset] [(.int sa)])) _
      refine XS.iloadN X93.here hx rfl (hb hby at_135) rfl ?_
      show Steps p.tables e below (T93.setTop (mkF m 136 #[.val (.int p1), .val (.int p2), .val (.int p3), .val (.int p4), .val (.int p5), .val (.int p6), .val (.int (1 : Int32)), .val (.ref b2), .val (.ref b30), .val (.int sa), .unset, .unset, .unset] [(.int p3), (.int sa)])) _
      refine X93.ldcInt hx hown (mvT hZ (hw _ (List.mem_of_getElem? (i := 0) rfl))) (g := (mkF m 136 #[.val (.int p1), .val (.int p2), .val (.int p3), .val (.int p4), .val (.int p5), .val (.int p6), .val (.int (1 : Int32)), .val (.ref b2), .val (.ref b30), .val (.int sa), .unset, .unset, .unset] [(.int p3), (.int sa)])) rfl (hb hby at_136) _ ?_
      show Steps p.tables e below (T93.setTop (mkF m 138 #[.val (.int p1), .val (.int p2), .val (.int p3), .val (.int p4), .val (.int p5), .val (.int p6), .val (.int (1 : Int32)), .val (.ref b2), .val (.ref b30), .val (.int sa), .unset, .unset, .unset] [(.int (2147483647 : Int32)), (.int p3), (.int sa)])) _
      refine XS.iand X93.here hx rfl (hb hby at_138) rfl ?_
      show Steps p.tables e below (T93.setTop (mkF m 139 #[.val (.int p1), .val (.int p2), .val (.int p3), .val (.int p4), .val (.int p5), .val (.int p6), .val (.int (1 : Int32)), .val (.ref b2), .val (.ref b30), .val (.int sa), .unset, .unset, .unset] [(.int (p3 &&& (2147483647 : Int32))), (.int sa)])) _
      refine XS.iload X93.here hx rfl (hb hby at_139) rfl ?_
      show Steps p.tables e below (T93.setTop (mkF m 141 #[.val (.int p1), .val (.int p2), .val (.int p3), .val (.int p4), .val (.int p5), .val (.int p6), .val (.int (1 : Int32)), .val (.ref b2), .val (.ref b30), .val (.int sa), .unset, .unset, .unset] [(.int (1 : Int32)), (.int (p3 &&& (2147483647 : Int32))), (.int sa)])) _
      refine XS.iload X93.here hx rfl (hb hby at_141) rfl ?_
      show Steps p.tables e below (T93.setTop (mkF m 143 #[.val (.int p1), .val (.int p2), .val (.int p3), .val (.int p4), .val (.int p5), .val (.int p6), .val (.int (1 : Int32)), .val (.ref b2), .val (.ref b30), .val (.int sa), .unset, .unset, .unset] [(.int sa), (.int (1 : Int32)), (.int (p3 &&& (2147483647 : Int32))), (.int sa)])) _
      refine XS.isub X93.here hx rfl (hb hby at_143) rfl ?_
      show Steps p.tables e below (T93.setTop (mkF m 144 #[.val (.int p1), .val (.int p2), .val (.int p3), .val (.int p4), .val (.int p5), .val (.int p6), .val (.int (1 : Int32)), .val (.ref b2), .val (.ref b30), .val (.int sa), .unset, .unset, .unset] [(.int ((1 : Int32) - sa)), (.int (p3 &&& (2147483647 : Int32))), (.int sa)])) _
      refine XS.iconst X93.here hx rfl (hb hby at_144) ?_
      show Steps p.tables e below (T93.setTop (mkF m 145 #[.val (.int p1), .val (.int p2), .val (.int p3), .val (.int p4), .val (.int p5), .val (.int p6), .val (.int (1 : Int32)), .val (.ref b2), .val (.ref b30), .val (.int sa), .unset, .unset, .unset] [(.int (1 : Int32)), (.int ((1 : Int32) - sa)), (.int (p3 &&& (2147483647 : Int32))), (.int sa)])) _
      refine XS.iadd X93.here hx rfl (hb hby at_145) rfl ?_
      show Steps p.tables e below (T93.setTop (mkF m 146 #[.val (.int p1), .val (.int p2), .val (.int p3), .val (.int p4), .val (.int p5), .val (.int p6), .val (.int (1 : Int32)), .val (.ref b2), .val (.ref b30), .val (.int sa), .unset, .unset, .unset] [(.int (((1 : Int32) - sa) + (1 : Int32))), (.int (p3 &&& (2147483647 : Int32))), (.int sa)])) _
      refine iremM X93 hx rfl (hb hby at_146) rfl (own_nz _ _ (by decide) hsa).2 ?_
      show Steps p.tables e below (T93.setTop (mkF m 147 #[.val (.int p1), .val (.int p2), .val (.int p3), .val (.int p4), .val (.int p5), .val (.int p6), .val (.int (1 : Int32)), .val (.ref b2), .val (.ref b30), .val (.int sa), .unset, .unset, .unset] [(.int ((p3 &&& (2147483647 : Int32)) % (((1 : Int32) - sa) + (1 : Int32)))), (.int sa)])) _
      refine XS.iadd X93.here hx rfl (hb hby at_147) rfl ?_
      show Steps p.tables e below (T93.setTop (mkF m 148 #[.val (.int p1), .val (.int p2), .val (.int p3), .val (.int p4), .val (.int p5), .val (.int p6), .val (.int (1 : Int32)), .val (.ref b2), .val (.ref b30), .val (.int sa), .unset, .unset, .unset] [(.int (sa + ((p3 &&& (2147483647 : Int32)) % (((1 : Int32) - sa) + (1 : Int32)))))])) _
      exact k
    obtain ⟨ea, h_ea⟩ : ∃ z_ : Int32, z_ = (sa + ((p3 &&& (2147483647 : Int32)) % (((1 : Int32) - sa) + (1 : Int32)))) := ⟨_, rfl⟩
    have K105 : ∀ t, Steps p.tables e below (T93.setTop (mkF m 148 #[.val (.int p1), .val (.int p2), .val (.int p3), .val (.int p4), .val (.int p5), .val (.int p6), .val (.int (1 : Int32)), .val (.ref b2), .val (.ref b30), .val (.int sa), .unset, .unset, .unset] [(.int ea)])) t → Steps p.tables e below G t := by rw [h_ea]; exact K104
    have hea := own_en p3 (1 : Int32) sa ea (by decide) hsa h_ea
    have hB : own_B (1 : Int32) sa ea := ⟨hsa.1, hea.1, hea.2, by decide⟩
    have K106 : ∀ t, Steps p.tables e below (T93.setTop (mkF m 156 #[.val (.int p1), .val (.int p2), .val (.int p3), .val (.int p4), .val (.int p5), .val (.int p6), .val (.int (1 : Int32)), .val (.ref b2), .val (.ref b30), .val (.int sa), .val (.int ea), .unset, .unset] [(.int ea), (.int sa), (.ref b30)])) t → Steps p.tables e below G t := by
      intro t k
      refine K105 t ?_
      show Steps p.tables e below (T93.setTop (mkF m 148 #[.val (.int p1), .val (.int p2), .val (.int p3), .val (.int p4), .val (.int p5), .val (.int p6), .val (.int (1 : Int32)), .val (.ref b2), .val (.ref b30), .val (.int sa), .unset, .unset, .unset] [(.int ea)])) _
      refine XS.istore X93.here hx rfl (hb hby at_148) rfl (l' := #[.val (.int p1), .val (.int p2), .val (.int p3), .val (.int p4), .val (.int p5), .val (.int p6), .val (.int (1 : Int32)), .val (.ref b2), .val (.ref b30), .val (.int sa), .val (.int ea), .unset, .unset]) rfl ?_
      show Steps p.tables e below (T93.setTop (mkF m 150 #[.val (.int p1), .val (.int p2), .val (.int p3), .val (.int p4), .val (.int p5), .val (.int p6), .val (.int (1 : Int32)), .val (.ref b2), .val (.ref b30), .val (.int sa), .val (.int ea), .unset, .unset] [])) _
      refine XS.aload X93.here hx rfl (hb hby at_150) rfl rfl ?_
      show Steps p.tables e below (T93.setTop (mkF m 152 #[.val (.int p1), .val (.int p2), .val (.int p3), .val (.int p4), .val (.int p5), .val (.int p6), .val (.int (1 : Int32)), .val (.ref b2), .val (.ref b30), .val (.int sa), .val (.int ea), .unset, .unset] [(.ref b30)])) _
      refine XS.iload X93.here hx rfl (hb hby at_152) rfl ?_
      show Steps p.tables e below (T93.setTop (mkF m 154 #[.val (.int p1), .val (.int p2), .val (.int p3), .val (.int p4), .val (.int p5), .val (.int p6), .val (.int (1 : Int32)), .val (.ref b2), .val (.ref b30), .val (.int sa), .val (.int ea), .unset, .unset] [(.int sa), (.ref b30)])) _
      refine XS.iload X93.here hx rfl (hb hby at_154) rfl ?_
      show Steps p.tables e below (T93.setTop (mkF m 156 #[.val (.int p1), .val (.int p2), .val (.int p3), .val (.int p4), .val (.int p5), .val (.int p6), .val (.int (1 : Int32)), .val (.ref b2), .val (.ref b30), .val (.int sa), .val (.int ea), .unset, .unset] [(.int ea), (.int sa), (.ref b30)])) _
      exact k
    obtain ⟨cq107, kq107, q107a, q107b, q107c⟩ := isOf hZ rfl E93'
    obtain ⟨_, _, ⟨T107, L107, kk107, nn107⟩, -, X107, ⟨Lc107, hQ107, lq107, yq107, zq107⟩, st107⟩ := X93.virtualBack hx (y := (⟨"org/arborlog/pattern/LineText", "delete", "(II)V"⟩ : MethodName)) (z := (⟨"org/arborlog/pattern/LineText", "delete", "(II)V"⟩ : MethodName)) hown (mvT hZ (hw _ (List.mem_of_getElem? (i := 13) rfl))) (mvT hZ (hw _ (List.mem_of_getElem? (i := 14) rfl))) (notFace_of_selects (args := #[]) (mvT hZ (hw _ (List.mem_of_getElem? (i := 16) rfl)))) (mvT hZ (hw _ (List.mem_of_getElem? (i := 16) rfl))) (mvT hZ (hw _ (List.mem_of_getElem? (i := 15) rfl))) (by decide) (backOf (W := 0) (rm3 l Z a0 hw [] b30 sa ea b93 kb93 zb93 (1 : Int32) vs93 T93.heap n0 Z97 E93' Fc93 f99 Vb93 ne_b30_b93 g_b30 gb93 hB hz93.1) hZ (hw _ (List.mem_of_getElem? (i := 17) rfl)) (hw _ (List.mem_of_getElem? (i := 4) rfl)) (by decide) (by decide)) q107a q107c (g := (mkF m 156 #[.val (.int p1), .val (.int p2), .val (.int p3), .val (.int p4), .val (.int p5), .val (.int p6), .val (.int (1 : Int32)), .val (.ref b2), .val (.ref b30), .val (.int sa), .val (.int ea), .unset, .unset] [(.int ea), (.int sa), (.ref b30)])) rfl (by rw [hml]; rfl) (Steps.refl _) (argsL := [(.int sa), (.int ea)]) (rest := []) (lenOf pd_4 rfl) rfl (by show 2 * 0 + _ ≤ _; exact Nat.le_of_eq rfl) (hb hby at_156) (fun _ _ => ⟨rfl, rfl, (by decide : 4 + 0 ≤ _), (by decide : 24 + 0 ≤ _)⟩)
    dsimp only [Pt.U, Pt.locs, Pt.cells, Pt.slots] at X107 lq107 yq107 zq107 st107 hQ107
    subst lq107 yq107 zq107
    obtain ⟨vs107, rfl, Nq107, K107, E107', Fc107, Fl107, Vb107, hA107, hB107⟩ := hQ107
    have N108 := Fr.app N94 Nq107
    have f109 := f95.keep K107 (ninS ne_b2_b30 (ninS ne_b2_b93 nin0))
    have f110 := E93'.keep K107
    have Z111 : n0 ≤ T107.heap.size := Nat.le_trans Z97 K107.1
    have KP112 : Keep h0 T107.heap [] := KP98.trans K107 (allS (Or.inr sz_b30) (allS (Or.inr sz93) all0))
    have K113 : ∀ t, Steps p.tables e below (T107.setTop (mkF m 159 #[.val (.int p1), .val (.int p2), .val (.int p3), .val (.int p4), .val (.int p5), .val (.int p6), .val (.int (1 : Int32)), .val (.ref b2), .val (.ref b30), .val (.int sa), .val (.int ea), .unset, .unset] [])) t → Steps p.tables e below G t := fun t k => K106 t (st107.trans k)
    have K114 : ∀ t, Steps p.tables e below (T107.setTop (mkF m 167 #[.val (.int p1), .val (.int p2), .val (.int p3), .val (.int p4), .val (.int p5), .val (.int p6), .val (.int (1 : Int32)), .val (.ref b2), .val (.ref b30), .val (.int sa), .val (.int ea), .unset, .unset] [(.int ((1 : Int32) - (ea - sa)))])) t → Steps p.tables e below G t := by
      intro t k
      refine K113 t ?_
      show Steps p.tables e below (T107.setTop (mkF m 159 #[.val (.int p1), .val (.int p2), .val (.int p3), .val (.int p4), .val (.int p5), .val (.int p6), .val (.int (1 : Int32)), .val (.ref b2), .val (.ref b30), .val (.int sa), .val (.int ea), .unset, .unset] [])) _
      refine XS.iload X107.here hx rfl (hb hby at_159) rfl ?_
      show Steps p.tables e below (T107.setTop (mkF m 161 #[.val (.int p1), .val (.int p2), .val (.int p3), .val (.int p4), .val (.int p5), .val (.int p6), .val (.int (1 : Int32)), .val (.ref b2), .val (.ref b30), .val (.int sa), .val (.int ea), .unset, .unset] [(.int (1 : Int32))])) _
      refine XS.iload X107.here hx rfl (hb hby at_161) rfl ?_
      show Steps p.tables e below (T107.setTop (mkF m 163 #[.val (.int p1), .val (.int p2), .val (.int p3), .val (.int p4), .val (.int p5), .val (.int p6), .val (.int (1 : Int32)), .val (.ref b2), .val (.ref b30), .val (.int sa), .val (.int ea), .unset, .unset] [(.int ea), (.int (1 : Int32))])) _
      refine XS.iload X107.here hx rfl (hb hby at_163) rfl ?_
      show Steps p.tables e below (T107.setTop (mkF m 165 #[.val (.int p1), .val (.int p2), .val (.int p3), .val (.int p4), .val (.int p5), .val (.int p6), .val (.int (1 : Int32)), .val (.ref b2), .val (.ref b30), .val (.int sa), .val (.int ea), .unset, .unset] [(.int sa), (.int ea), (.int (1 : Int32))])) _
      refine XS.isub X107.here hx rfl (hb hby at_165) rfl ?_
      show Steps p.tables e below (T107.setTop (mkF m 166 #[.val (.int p1), .val (.int p2), .val (.int p3), .val (.int p4), .val (.int p5), .val (.int p6), .val (.int (1 : Int32)), .val (.ref b2), .val (.ref b30), .val (.int sa), .val (.int ea), .unset, .unset] [(.int (ea - sa)), (.int (1 : Int32))])) _
      refine XS.isub X107.here hx rfl (hb hby at_166) rfl ?_
      show Steps p.tables e below (T107.setTop (mkF m 167 #[.val (.int p1), .val (.int p2), .val (.int p3), .val (.int p4), .val (.int p5), .val (.int p6), .val (.int (1 : Int32)), .val (.ref b2), .val (.ref b30), .val (.int sa), .val (.int ea), .unset, .unset] [(.int ((1 : Int32) - (ea - sa)))])) _
      exact k
    obtain ⟨nl, h_nl⟩ : ∃ z_ : Int32, z_ = ((1 : Int32) - (ea - sa)) := ⟨_, rfl⟩
    have K115 : ∀ t, Steps p.tables e below (T107.setTop (mkF m 167 #[.val (.int p1), .val (.int p2), .val (.int p3), .val (.int p4), .val (.int p5), .val (.int p6), .val (.int (1 : Int32)), .val (.ref b2), .val (.ref b30), .val (.int sa), .val (.int ea), .unset, .unset] [(.int nl)])) t → Steps p.tables e below G t := by rw [h_nl]; exact K114
    have K116 : ∀ t, Steps p.tables e below (T107.setTop (mkF m 171 #[.val (.int p1), .val (.int p2), .val (.int p3), .val (.int p4), .val (.int p5), .val (.int p6), .val (.int (1 : Int32)), .val (.ref b2), .val (.ref b30), .val (.int sa), .val (.int ea), .val (.int nl), .unset] [(.ref b30)])) t → Steps p.tables e below G t := by
      intro t k
      refine K115 t ?_
      show Steps p.tables e below (T107.setTop (mkF m 167 #[.val (.int p1), .val (.int p2), .val (.int p3), .val (.int p4), .val (.int p5), .val (.int p6), .val (.int (1 : Int32)), .val (.ref b2), .val (.ref b30), .val (.int sa), .val (.int ea), .unset, .unset] [(.int nl)])) _
      refine XS.istore X107.here hx rfl (hb hby at_167) rfl (l' := #[.val (.int p1), .val (.int p2), .val (.int p3), .val (.int p4), .val (.int p5), .val (.int p6), .val (.int (1 : Int32)), .val (.ref b2), .val (.ref b30), .val (.int sa), .val (.int ea), .val (.int nl), .unset]) rfl ?_
      show Steps p.tables e below (T107.setTop (mkF m 169 #[.val (.int p1), .val (.int p2), .val (.int p3), .val (.int p4), .val (.int p5), .val (.int p6), .val (.int (1 : Int32)), .val (.ref b2), .val (.ref b30), .val (.int sa), .val (.int ea), .val (.int nl), .unset] [])) _
      refine XS.aload X107.here hx rfl (hb hby at_169) rfl rfl ?_
      show Steps p.tables e below (T107.setTop (mkF m 171 #[.val (.int p1), .val (.int p2), .val (.int p3), .val (.int p4), .val (.int p5), .val (.int p6), .val (.int (1 : Int32)), .val (.ref b2), .val (.ref b30), .val (.int sa), .val (.int ea), .val (.int nl), .unset] [(.ref b30)])) _
      exact k
    obtain ⟨cq117, kq117, q117a, q117b, q117c⟩ := isOf hZ rfl E107'
    obtain ⟨_, _, ⟨T117, L117, kk117, nn117⟩, -, X117, ⟨Lc117, hQ117, lq117, yq117, zq117⟩, st117⟩ := X107.virtualBack hx (y := (⟨"org/arborlog/pattern/LineText", "length", "()I"⟩ : MethodName)) (z := (⟨"org/arborlog/pattern/LineText", "length", "()I"⟩ : MethodName)) hown (mvT hZ (hw _ (List.mem_of_getElem? (i := 24) rfl))) (mvT hZ (hw _ (List.mem_of_getElem? (i := 25) rfl))) (notFace_of_selects (args := #[]) (mvT hZ (hw _ (List.mem_of_getElem? (i := 27) rfl)))) (mvT hZ (hw _ (List.mem_of_getElem? (i := 27) rfl))) (mvT hZ (hw _ (List.mem_of_getElem? (i := 26) rfl))) (by decide) (backOf (W := 0) (rm4 l Z a0 hw [] b30 ((1 : Int32) - (ea - sa)) T107.heap n0 Z111 Fl107) hZ (hw _ (List.mem_of_getElem? (i := 28) rfl)) (hw _ (List.mem_of_getElem? (i := 4) rfl)) (by decide) (by decide)) q117a q117c (g := (mkF m 171 #[.val (.int p1), .val (.int p2), .val (.int p3), .val (.int p4), .val (.int p5), .val (.int p6), .val (.int (1 : Int32)), .val (.ref b2), .val (.ref b30), .val (.int sa), .val (.int ea), .val (.int nl), .unset] [(.ref b30)])) rfl (by rw [hml]; rfl) (Steps.refl _) (argsL := []) (rest := []) (lenOf pd_5 rfl) rfl (by show 2 * 0 + _ ≤ _; exact Nat.le_of_eq rfl) (hb hby at_171) (fun _ _ => ⟨rfl, rfl, (by decide : 4 + 0 ≤ _), (by decide : 24 + 0 ≤ _)⟩)
    dsimp only [Pt.U, Pt.locs, Pt.cells, Pt.slots] at X117 lq117 yq117 zq117 st117 hQ117
    subst lq117 yq117 zq117
    obtain ⟨rfl, Nq117, e117⟩ := hQ117
    have N118 := Fr.app N108 Nq117
    have K119 : ∀ t, Steps p.tables e below (T117.setTop (mkF m 174 #[.val (.int p1), .val (.int p2), .val (.int p3), .val (.int p4), .val (.int p5), .val (.int p6), .val (.int (1 : Int32)), .val (.ref b2), .val (.ref b30), .val (.int sa), .val (.int ea), .val (.int nl), .unset] [(.int ((1 : Int32) - (ea - sa)))])) t → Steps p.tables e below G t := fun t k => K116 t (st117.trans k)
    have K120 : ∀ t, Steps p.tables e below (T117.setTop (mkF m 183 #[.val (.int p1), .val (.int p2), .val (.int p3), .val (.int p4), .val (.int p5), .val (.int p6), .val (.int (1 : Int32)), .val (.ref b2), .val (.ref b30), .val (.int sa), .val (.int ea), .val (.int nl), .unset] [(.ref b30)])) t → Steps p.tables e below G t := by
      intro t k
      refine K119 t ?_
      show Steps p.tables e below (T117.setTop (mkF m 174 #[.val (.int p1), .val (.int p2), .val (.int p3), .val (.int p4), .val (.int p5), .val (.int p6), .val (.int (1 : Int32)), .val (.ref b2), .val (.ref b30), .val (.int sa), .val (.int ea), .val (.int nl), .unset] [(.int ((1 : Int32) - (ea - sa)))])) _
      refine XS.iload X117.here hx rfl (hb hby at_174) rfl ?_
      show Steps p.tables e below (T117.setTop (mkF m 176 #[.val (.int p1), .val (.int p2), .val (.int p3), .val (.int p4), .val (.int p5), .val (.int p6), .val (.int (1 : Int32)), .val (.ref b2), .val (.ref b30), .val (.int sa), .val (.int ea), .val (.int nl), .unset] [(.int nl), (.int ((1 : Int32) - (ea - sa)))])) _
      refine XS.icmpYes X117.here hx rfl (pc0 := 176) (pc' := 181) rfl (hb hby at_176) rfl (teq h_nl.symm).1 (by decide) (by decide) ?_
      show Steps p.tables e below (T117.setTop (mkF m 181 #[.val (.int p1), .val (.int p2), .val (.int p3), .val (.int p4), .val (.int p5), .val (.int p6), .val (.int (1 : Int32)), .val (.ref b2), .val (.ref b30), .val (.int sa), .val (.int ea), .val (.int nl), .unset] [])) _
      refine XS.aload X117.here hx rfl (hb hby at_181) rfl rfl ?_
      show Steps p.tables e below (T117.setTop (mkF m 183 #[.val (.int p1), .val (.int p2), .val (.int p3), .val (.int p4), .val (.int p5), .val (.int p6), .val (.int (1 : Int32)), .val (.ref b2), .val (.ref b30), .val (.int sa), .val (.int ea), .val (.int nl), .unset] [(.ref b30)])) _
      exact k
    obtain ⟨cq121, kq121, q121a, q121b, q121c⟩ := isOf hZ e117 E107'
    obtain ⟨_, _, ⟨T121, L121, kk121, nn121⟩, -, X121, ⟨Lc121, hQ121, lq121, yq121, zq121⟩, st121⟩ := X117.virtualBack hx (y := (⟨"org/arborlog/pattern/LineText", "chars", "()[C"⟩ : MethodName)) (z := (⟨"org/arborlog/pattern/LineText", "chars", "()[C"⟩ : MethodName)) hown (mvT hZ (hw _ (List.mem_of_getElem? (i := 29) rfl))) (mvT hZ (hw _ (List.mem_of_getElem? (i := 30) rfl))) (notFace_of_selects (args := #[]) (mvT hZ (hw _ (List.mem_of_getElem? (i := 32) rfl)))) (mvT hZ (hw _ (List.mem_of_getElem? (i := 32) rfl))) (mvT hZ (hw _ (List.mem_of_getElem? (i := 31) rfl))) (by decide) (backOf (W := 0) (rm5 l Z a0 hw [] b30 b93 T107.heap n0 Z111 Fc107) hZ (hw _ (List.mem_of_getElem? (i := 33) rfl)) (hw _ (List.mem_of_getElem? (i := 4) rfl)) (by decide) (by decide)) q121a q121c (g := (mkF m 183 #[.val (.int p1), .val (.int p2), .val (.int p3), .val (.int p4), .val (.int p5), .val (.int p6), .val (.int (1 : Int32)), .val (.ref b2), .val (.ref b30), .val (.int sa), .val (.int ea), .val (.int nl), .unset] [(.ref b30)])) rfl (by rw [hml]; rfl) (Steps.refl _) (argsL := []) (rest := []) (lenOf pd_6 rfl) rfl (by show 2 * 0 + _ ≤ _; exact Nat.le_of_eq rfl) (hb hby at_183) (fun _ _ => ⟨rfl, e117, (by decide : 4 + 0 ≤ _), (by decide : 24 + 0 ≤ _)⟩)
    dsimp only [Pt.U, Pt.locs, Pt.cells, Pt.slots] at X121 lq121 yq121 zq121 st121 hQ121
    subst lq121 yq121 zq121
    obtain ⟨rfl, Nq121, e121⟩ := hQ121
    have N122 := Fr.app N118 Nq121
    have K123 : ∀ t, Steps p.tables e below (T121.setTop (mkF m 186 #[.val (.int p1), .val (.int p2), .val (.int p3), .val (.int p4), .val (.int p5), .val (.int p6), .val (.int (1 : Int32)), .val (.ref b2), .val (.ref b30), .val (.int sa), .val (.int ea), .val (.int nl), .unset] [(.ref b93)])) t → Steps p.tables e below G t := fun t k => K120 t (st121.trans k)
    have K124 : ∀ t, Steps p.tables e below (T121.setTop (mkF m 190 #[.val (.int p1), .val (.int p2), .val (.int p3), .val (.int p4), .val (.int p5), .val (.int p6), .val (.int (1 : Int32)), .val (.ref b2), .val (.ref b30), .val (.int sa), .val (.int ea), .val (.int nl), .val (.ref b93)] [(.ref b93)])) t → Steps p.tables e below G t := by
      intro t k
      refine K123 t ?_
      show Steps p.tables e below (T121.setTop (mkF m 186 #[.val (.int p1), .val (.int p2), .val (.int p3), .val (.int p4), .val (.int p5), .val (.int p6), .val (.int (1 : Int32)), .val (.ref b2), .val (.ref b30), .val (.int sa), .val (.int ea), .val (.int nl), .unset] [(.ref b93)])) _
      refine XS.astore X121.here hx rfl (hb hby at_186) rfl rfl (l' := #[.val (.int p1), .val (.int p2), .val (.int p3), .val (.int p4), .val (.int p5), .val (.int p6), .val (.int (1 : Int32)), .val (.ref b2), .val (.ref b30), .val (.int sa), .val (.int ea), .val (.int nl), .val (.ref b93)]) rfl ?_
      show Steps p.tables e below (T121.setTop (mkF m 188 #[.val (.int p1), .val (.int p2), .val (.int p3), .val (.int p4), .val (.int p5), .val (.int p6), .val (.int (1 : Int32)), .val (.ref b2), .val (.ref b30), .val (.int sa), .val (.int ea), .val (.int nl), .val (.ref b93)] [])) _
      refine XS.aload X121.here hx rfl (hb hby at_188) rfl rfl ?_
      show Steps p.tables e below (T121.setTop (mkF m 190 #[.val (.int p1), .val (.int p2), .val (.int p3), .val (.int p4), .val (.int p5), .val (.int p6), .val (.int (1 : Int32)), .val (.ref b2), .val (.ref b30), .val (.int sa), .val (.int ea), .val (.int nl), .val (.ref b93)] [(.ref b93)])) _
      exact k
    obtain ⟨cl125, Ar125, -, S125, M125, -, -⟩ := id Vb107
    have K126 : ∀ t, Steps p.tables e below (T121.setTop (mkF m 191 #[.val (.int p1), .val (.int p2), .val (.int p3), .val (.int p4), .val (.int p5), .val (.int p6), .val (.int (1 : Int32)), .val (.ref b2), .val (.ref b30), .val (.int sa), .val (.int ea), .val (.int nl), .val (.ref b93)] [(.int zb93)])) t → Steps p.tables e below G t := by
      intro t k
      refine K124 t ?_
      refine X121.arraylength hx (by rw [e121]; exact Ar125.1) (State.isArrayOf_alike hZ.alike Ar125.2.1) (g := (mkF m 190 #[.val (.int p1), .val (.int p2), .val (.int p3), .val (.int p4), .val (.int p5), .val (.int p6), .val (.int (1 : Int32)), .val (.ref b2), .val (.ref b30), .val (.int sa), .val (.int ea), .val (.int nl), .val (.ref b93)] [(.ref b93)])) rfl rfl (hb hby at_190) _ ?_
      rw [len_of S125 M125]
      exact k
    have K127 : ∀ t, Steps p.tables e below (T121.setTop (mkF m 198 #[.val (.int p1), .val (.int p2), .val (.int p3), .val (.int p4), .val (.int p5), .val (.int p6), .val (.int (1 : Int32)), .val (.ref b2), .val (.ref b30), .val (.int sa), .val (.int ea), .val (.int nl), .val (.ref b93)] [])) t → Steps p.tables e below G t := by
      intro t k
      refine K126 t ?_
      show Steps p.tables e below (T121.setTop (mkF m 191 #[.val (.int p1), .val (.int p2), .val (.int p3), .val (.int p4), .val (.int p5), .val (.int p6), .val (.int (1 : Int32)), .val (.ref b2), .val (.ref b30), .val (.int sa), .val (.int ea), .val (.int nl), .val (.ref b93)] [(.int zb93)])) _
      refine XS.iload X121.here hx rfl (hb hby at_191) rfl ?_
      show Steps p.tables e below (T121.setTop (mkF m 193 #[.val (.int p1), .val (.int p2), .val (.int p3), .val (.int p4), .val (.int p5), .val (.int p6), .val (.int (1 : Int32)), .val (.ref b2), .val (.ref b30), .val (.int sa), .val (.int ea), .val (.int nl), .val (.ref b93)] [(.int nl), (.int zb93)])) _
      refine XS.icmpYes X121.here hx rfl (pc0 := 193) (pc' := 198) rfl (hb hby at_193) rfl (flt (own_zl hB hz93.1 h_nl)).2.1 (by decide) (by decide) ?_
      show Steps p.tables e below (T121.setTop (mkF m 198 #[.val (.int p1), .val (.int p2), .val (.int p3), .val (.int p4), .val (.int p5), .val (.int p6), .val (.int (1 : Int32)), .val (.ref b2), .val (.ref b30), .val (.int sa), .val (.int ea), .val (.int nl), .val (.ref b93)] [])) _
      exact k
    have hf : ∀ j : Nat, j < (1 : Int32).toNatClampNeg → vs93.getD j (Value.int (0 : Int32)) = .int (nar .char (([(nar .char (p4.toUInt32.toUInt16.toUInt32.toInt32)), (nar .char (((p4.toUInt32 >>> ((16 : Int32) &&& 31).toUInt32).toInt32).toUInt32.toUInt16.toUInt32.toInt32)), (nar .char (p5.toUInt32.toUInt16.toUInt32.toInt32)), (nar .char (((p5.toUInt32 >>> ((16 : Int32) &&& 31).toUInt32).toInt32).toUInt32.toUInt16.toUInt32.toInt32))] : List Int32).getD j 0)) ∧ [(.int (nar .char (p4.toUInt32.toUInt16.toUInt32.toInt32))), (.int (nar .char (((p4.toUInt32 >>> ((16 : Int32) &&& 31).toUInt32).toInt32).toUInt32.toUInt16.toUInt32.toInt32))), (.int (nar .char (p5.toUInt32.toUInt16.toUInt32.toInt32))), (.int (nar .char (((p5.toUInt32 >>> ((16 : Int32) &&& 31).toUInt32).toInt32).toUInt32.toUInt16.toUInt32.toInt32)))].getD j (Value.int (0 : Int32)) = .int (([(nar .char (p4.toUInt32.toUInt16.toUInt32.toInt32)), (nar .char (((p4.toUInt32 >>> ((16 : Int32) &&& 31).toUInt32).toInt32).toUInt32.toUInt16.toUInt32.toInt32)), (nar .char (p5.toUInt32.toUInt16.toUInt32.toInt32)), (nar .char (((p5.toUInt32 >>> ((16 : Int32) &&& 31).toUInt32).toInt32).toUInt32.toUInt16.toUInt32.toInt32))] : List Int32).getD j 0) := fun j hj => by
      have hj' : j < 1 := hj
      match j, hj' with
      | 0, _ => exact ⟨ct100, rfl⟩
      | j + 1, h => exact absurd h (by omega)
    have K128 : ∀ t, Steps p.tables e below (T121.setTop (mkF m 209 #[.val (.int p1), .val (.int p2), .val (.int p3), .val (.int p4), .val (.int p5), .val (.int p6), .val (.int (1 : Int32)), .val (.ref b2), .val (.ref b30), .val (.int sa), .val (.int ea), .val (.int nl), .val (.ref b93)] [(.int ea), (.int sa), (.int nl), (.int (0 : Int32)), (.ref b2), (.ref b93)])) t → Steps p.tables e below G t := by
      intro t k
      refine K127 t ?_
      show Steps p.tables e below (T121.setTop (mkF m 198 #[.val (.int p1), .val (.int p2), .val (.int p3), .val (.int p4), .val (.int p5), .val (.int p6), .val (.int (1 : Int32)), .val (.ref b2), .val (.ref b30), .val (.int sa), .val (.int ea), .val (.int nl), .val (.ref b93)] [])) _
      refine XS.aload X121.here hx rfl (hb hby at_198) rfl rfl ?_
      show Steps p.tables e below (T121.setTop (mkF m 200 #[.val (.int p1), .val (.int p2), .val (.int p3), .val (.int p4), .val (.int p5), .val (.int p6), .val (.int (1 : Int32)), .val (.ref b2), .val (.ref b30), .val (.int sa), .val (.int ea), .val (.int nl), .val (.ref b93)] [(.ref b93)])) _
      refine XS.aload X121.here hx rfl (hb hby at_200) rfl rfl ?_
      show Steps p.tables e below (T121.setTop (mkF m 202 #[.val (.int p1), .val (.int p2), .val (.int p3), .val (.int p4), .val (.int p5), .val (.int p6), .val (.int (1 : Int32)), .val (.ref b2), .val (.ref b30), .val (.int sa), .val (.int ea), .val (.int nl), .val (.ref b93)] [(.ref b2), (.ref b93)])) _
      refine XS.iconst X121.here hx rfl (hb hby at_202) ?_
      show Steps p.tables e below (T121.setTop (mkF m 203 #[.val (.int p1), .val (.int p2), .val (.int p3), .val (.int p4), .val (.int p5), .val (.int p6), .val (.int (1 : Int32)), .val (.ref b2), .val (.ref b30), .val (.int sa), .val (.int ea), .val (.int nl), .val (.ref b93)] [(.int (0 : Int32)), (.ref b2), (.ref b93)])) _
      refine XS.iload X121.here hx rfl (hb hby at_203) rfl ?_
      show Steps p.tables e below (T121.setTop (mkF m 205 #[.val (.int p1), .val (.int p2), .val (.int p3), .val (.int p4), .val (.int p5), .val (.int p6), .val (.int (1 : Int32)), .val (.ref b2), .val (.ref b30), .val (.int sa), .val (.int ea), .val (.int nl), .val (.ref b93)] [(.int nl), (.int (0 : Int32)), (.ref b2), (.ref b93)])) _
      refine XS.iload X121.here hx rfl (hb hby at_205) rfl ?_
      show Steps p.tables e below (T121.setTop (mkF m 207 #[.val (.int p1), .val (.int p2), .val (.int p3), .val (.int p4), .val (.int p5), .val (.int p6), .val (.int (1 : Int32)), .val (.ref b2), .val (.ref b30), .val (.int sa), .val (.int ea), .val (.int nl), .val (.ref b93)] [(.int sa), (.int nl), (.int (0 : Int32)), (.ref b2), (.ref b93)])) _
      refine XS.iload X121.here hx rfl (hb hby at_207) rfl ?_
      show Steps p.tables e below (T121.setTop (mkF m 209 #[.val (.int p1), .val (.int p2), .val (.int p3), .val (.int p4), .val (.int p5), .val (.int p6), .val (.int (1 : Int32)), .val (.ref b2), .val (.ref b30), .val (.int sa), .val (.int ea), .val (.int nl), .val (.ref b93)] [(.int ea), (.int sa), (.int nl), (.int (0 : Int32)), (.ref b2), (.ref b93)])) _
      exact k
    obtain ⟨_, _, ⟨T129, L129, kk129, nn129⟩, -, X129, ⟨Lc129, hQ129, lq129, yq129, zq129⟩, st129⟩ := Jvm.LawKit.callS X121 hx (y := (⟨"org/arborlog/pattern/LineTextDeletePinLaw", "slotOk", "([C[CIIII)Z"⟩ : MethodName)) hown (mvT hZ (hw _ (List.mem_of_getElem? (i := 34) rfl))) (mvT hZ (hw _ (List.mem_of_getElem? (i := 35) rfl))) (mvT hZ (hw _ (List.mem_of_getElem? (i := 36) rfl))) (mvT hZ (hw _ (List.mem_of_getElem? (i := 37) rfl))) (by decide) (backOf (W := 0) (rm6 l Z a0 hw [] b93 b2 (0 : Int32) nl sa ea kb93 kn2 zb93 vs107 [(.int (nar .char (p4.toUInt32.toUInt16.toUInt32.toInt32))), (.int (nar .char (((p4.toUInt32 >>> ((16 : Int32) &&& 31).toUInt32).toInt32).toUInt32.toUInt16.toUInt32.toInt32))), (.int (nar .char (p5.toUInt32.toUInt16.toUInt32.toInt32))), (.int (nar .char (((p5.toUInt32 >>> ((16 : Int32) &&& 31).toUInt32).toInt32).toUInt32.toUInt16.toUInt32.toInt32)))] T107.heap n0 Z111 Vb107 f109 (own_slot 0 rfl (by decide) hB hz93.1 h_nl hA107 hB107 hf)) hZ (hw _ (List.mem_of_getElem? (i := 37) rfl)) (hw _ (List.mem_of_getElem? (i := 36) rfl)) (by decide) (by decide)) (g := (mkF m 209 #[.val (.int p1), .val (.int p2), .val (.int p3), .val (.int p4), .val (.int p5), .val (.int p6), .val (.int (1 : Int32)), .val (.ref b2), .val (.ref b30), .val (.int sa), .val (.int ea), .val (.int nl), .val (.ref b93)] [(.int ea), (.int sa), (.int nl), (.int (0 : Int32)), (.ref b2), (.ref b93)])) rfl (by rw [hml]; rfl) (argsL := [(.ref b93), (.ref b2), (.int (0 : Int32)), (.int nl), (.int sa), (.int ea)]) (rest := []) (lenOf pd_7 rfl) rfl (by show 2 * 0 + _ ≤ _; exact Nat.le_of_eq rfl) (hb hby at_209) (fun _ _ => ⟨rfl, e121, (by decide : 4 + 0 ≤ _), (by decide : 24 + 0 ≤ _)⟩)
    dsimp only [Pt.U, Pt.locs, Pt.cells, Pt.slots] at X129 lq129 yq129 zq129 st129 hQ129
    subst lq129 yq129 zq129
    obtain ⟨rfl, Nq129, e129⟩ := hQ129
    have N130 := Fr.app N122 Nq129
    have K131 : ∀ t, Steps p.tables e below (T129.setTop (mkF m 212 #[.val (.int p1), .val (.int p2), .val (.int p3), .val (.int p4), .val (.int p5), .val (.int p6), .val (.int (1 : Int32)), .val (.ref b2), .val (.ref b30), .val (.int sa), .val (.int ea), .val (.int nl), .val (.ref b93)] [(.int (1 : Int32))])) t → Steps p.tables e below G t := fun t k => K128 t (st129 _ k)
    have K132 : ∀ t, Steps p.tables e below (T129.setTop (mkF m 226 #[.val (.int p1), .val (.int p2), .val (.int p3), .val (.int p4), .val (.int p5), .val (.int p6), .val (.int (1 : Int32)), .val (.ref b2), .val (.ref b30), .val (.int sa), .val (.int ea), .val (.int nl), .val (.ref b93)] [(.int ea), (.int sa), (.int nl), (.int (1 : Int32)), (.ref b2), (.ref b93)])) t → Steps p.tables e below G t := by
      intro t k
      refine K131 t ?_
      show Steps p.tables e below (T129.setTop (mkF m 212 #[.val (.int p1), .val (.int p2), .val (.int p3), .val (.int p4), .val (.int p5), .val (.int p6), .val (.int (1 : Int32)), .val (.ref b2), .val (.ref b30), .val (.int sa), .val (.int ea), .val (.int nl), .val (.ref b93)] [(.int (1 : Int32))])) _
      refine XS.ifNo X129.here hx rfl (hb hby at_212) rfl ((if0 _ _).trans (feq (by decide)).1) ?_
      show Steps p.tables e below (T129.setTop (mkF m 215 #[.val (.int p1), .val (.int p2), .val (.int p3), .val (.int p4), .val (.int p5), .val (.int p6), .val (.int (1 : Int32)), .val (.ref b2), .val (.ref b30), .val (.int sa), .val (.int ea), .val (.int nl), .val (.ref b93)] [])) _
      refine XS.aload X129.here hx rfl (hb hby at_215) rfl rfl ?_
      show Steps p.tables e below (T129.setTop (mkF m 217 #[.val (.int p1), .val (.int p2), .val (.int p3), .val (.int p4), .val (.int p5), .val (.int p6), .val (.int (1 : Int32)), .val (.ref b2), .val (.ref b30), .val (.int sa), .val (.int ea), .val (.int nl), .val (.ref b93)] [(.ref b93)])) _
      refine XS.aload X129.here hx rfl (hb hby at_217) rfl rfl ?_
      show Steps p.tables e below (T129.setTop (mkF m 219 #[.val (.int p1), .val (.int p2), .val (.int p3), .val (.int p4), .val (.int p5), .val (.int p6), .val (.int (1 : Int32)), .val (.ref b2), .val (.ref b30), .val (.int sa), .val (.int ea), .val (.int nl), .val (.ref b93)] [(.ref b2), (.ref b93)])) _
      refine XS.iconst X129.here hx rfl (hb hby at_219) ?_
      show Steps p.tables e below (T129.setTop (mkF m 220 #[.val (.int p1), .val (.int p2), .val (.int p3), .val (.int p4), .val (.int p5), .val (.int p6), .val (.int (1 : Int32)), .val (.ref b2), .val (.ref b30), .val (.int sa), .val (.int ea), .val (.int nl), .val (.ref b93)] [(.int (1 : Int32)), (.ref b2), (.ref b93)])) _
      refine XS.iload X129.here hx rfl (hb hby at_220) rfl ?_
      show Steps p.tables e below (T129.setTop (mkF m 222 #[.val (.int p1), .val (.int p2), .val (.int p3), .val (.int p4), .val (.int p5), .val (.int p6), .val (.int (1 : Int32)), .val (.ref b2), .val (.ref b30), .val (.int sa), .val (.int ea), .val (.int nl), .val (.ref b93)] [(.int nl), (.int (1 : Int32)), (.ref b2), (.ref b93)])) _
      refine XS.iload X129.here hx rfl (hb hby at_222) rfl ?_
      show Steps p.tables e below (T129.setTop (mkF m 224 #[.val (.int p1), .val (.int p2), .val (.int p3), .val (.int p4), .val (.int p5), .val (.int p6), .val (.int (1 : Int32)), .val (.ref b2), .val (.ref b30), .val (.int sa), .val (.int ea), .val (.int nl), .val (.ref b93)] [(.int sa), (.int nl), (.int (1 : Int32)), (.ref b2), (.ref b93)])) _
      refine XS.iload X129.here hx rfl (hb hby at_224) rfl ?_
      show Steps p.tables e below (T129.setTop (mkF m 226 #[.val (.int p1), .val (.int p2), .val (.int p3), .val (.int p4), .val (.int p5), .val (.int p6), .val (.int (1 : Int32)), .val (.ref b2), .val (.ref b30), .val (.int sa), .val (.int ea), .val (.int nl), .val (.ref b93)] [(.int ea), (.int sa), (.int nl), (.int (1 : Int32)), (.ref b2), (.ref b93)])) _
      exact k
    obtain ⟨_, _, ⟨T133, L133, kk133, nn133⟩, -, X133, ⟨Lc133, hQ133, lq133, yq133, zq133⟩, st133⟩ := Jvm.LawKit.callS X129 hx (y := (⟨"org/arborlog/pattern/LineTextDeletePinLaw", "slotOk", "([C[CIIII)Z"⟩ : MethodName)) hown (mvT hZ (hw _ (List.mem_of_getElem? (i := 34) rfl))) (mvT hZ (hw _ (List.mem_of_getElem? (i := 35) rfl))) (mvT hZ (hw _ (List.mem_of_getElem? (i := 36) rfl))) (mvT hZ (hw _ (List.mem_of_getElem? (i := 37) rfl))) (by decide) (backOf (W := 0) (rm6 l Z a0 hw [] b93 b2 (1 : Int32) nl sa ea kb93 kn2 zb93 vs107 [(.int (nar .char (p4.toUInt32.toUInt16.toUInt32.toInt32))), (.int (nar .char (((p4.toUInt32 >>> ((16 : Int32) &&& 31).toUInt32).toInt32).toUInt32.toUInt16.toUInt32.toInt32))), (.int (nar .char (p5.toUInt32.toUInt16.toUInt32.toInt32))), (.int (nar .char (((p5.toUInt32 >>> ((16 : Int32) &&& 31).toUInt32).toInt32).toUInt32.toUInt16.toUInt32.toInt32)))] T107.heap n0 Z111 Vb107 f109 (own_slot 1 rfl (by decide) hB hz93.1 h_nl hA107 hB107 hf)) hZ (hw _ (List.mem_of_getElem? (i := 37) rfl)) (hw _ (List.mem_of_getElem? (i := 36) rfl)) (by decide) (by decide)) (g := (mkF m 226 #[.val (.int p1), .val (.int p2), .val (.int p3), .val (.int p4), .val (.int p5), .val (.int p6), .val (.int (1 : Int32)), .val (.ref b2), .val (.ref b30), .val (.int sa), .val (.int ea), .val (.int nl), .val (.ref b93)] [(.int ea), (.int sa), (.int nl), (.int (1 : Int32)), (.ref b2), (.ref b93)])) rfl (by rw [hml]; rfl) (argsL := [(.ref b93), (.ref b2), (.int (1 : Int32)), (.int nl), (.int sa), (.int ea)]) (rest := []) (lenOf pd_7 rfl) rfl (by show 2 * 0 + _ ≤ _; exact Nat.le_of_eq rfl) (hb hby at_226) (fun _ _ => ⟨rfl, e129, (by decide : 4 + 0 ≤ _), (by decide : 24 + 0 ≤ _)⟩)
    dsimp only [Pt.U, Pt.locs, Pt.cells, Pt.slots] at X133 lq133 yq133 zq133 st133 hQ133
    subst lq133 yq133 zq133
    obtain ⟨rfl, Nq133, e133⟩ := hQ133
    have N134 := Fr.app N130 Nq133
    have K135 : ∀ t, Steps p.tables e below (T133.setTop (mkF m 229 #[.val (.int p1), .val (.int p2), .val (.int p3), .val (.int p4), .val (.int p5), .val (.int p6), .val (.int (1 : Int32)), .val (.ref b2), .val (.ref b30), .val (.int sa), .val (.int ea), .val (.int nl), .val (.ref b93)] [(.int (1 : Int32))])) t → Steps p.tables e below G t := fun t k => K132 t (st133 _ k)
    have K136 : ∀ t, Steps p.tables e below (T133.setTop (mkF m 243 #[.val (.int p1), .val (.int p2), .val (.int p3), .val (.int p4), .val (.int p5), .val (.int p6), .val (.int (1 : Int32)), .val (.ref b2), .val (.ref b30), .val (.int sa), .val (.int ea), .val (.int nl), .val (.ref b93)] [(.int ea), (.int sa), (.int nl), (.int (2 : Int32)), (.ref b2), (.ref b93)])) t → Steps p.tables e below G t := by
      intro t k
      refine K135 t ?_
      show Steps p.tables e below (T133.setTop (mkF m 229 #[.val (.int p1), .val (.int p2), .val (.int p3), .val (.int p4), .val (.int p5), .val (.int p6), .val (.int (1 : Int32)), .val (.ref b2), .val (.ref b30), .val (.int sa), .val (.int ea), .val (.int nl), .val (.ref b93)] [(.int (1 : Int32))])) _
      refine XS.ifNo X133.here hx rfl (hb hby at_229) rfl ((if0 _ _).trans (feq (by decide)).1) ?_
      show Steps p.tables e below (T133.setTop (mkF m 232 #[.val (.int p1), .val (.int p2), .val (.int p3), .val (.int p4), .val (.int p5), .val (.int p6), .val (.int (1 : Int32)), .val (.ref b2), .val (.ref b30), .val (.int sa), .val (.int ea), .val (.int nl), .val (.ref b93)] [])) _
      refine XS.aload X133.here hx rfl (hb hby at_232) rfl rfl ?_
      show Steps p.tables e below (T133.setTop (mkF m 234 #[.val (.int p1), .val (.int p2), .val (.int p3), .val (.int p4), .val (.int p5), .val (.int p6), .val (.int (1 : Int32)), .val (.ref b2), .val (.ref b30), .val (.int sa), .val (.int ea), .val (.int nl), .val (.ref b93)] [(.ref b93)])) _
      refine XS.aload X133.here hx rfl (hb hby at_234) rfl rfl ?_
      show Steps p.tables e below (T133.setTop (mkF m 236 #[.val (.int p1), .val (.int p2), .val (.int p3), .val (.int p4), .val (.int p5), .val (.int p6), .val (.int (1 : Int32)), .val (.ref b2), .val (.ref b30), .val (.int sa), .val (.int ea), .val (.int nl), .val (.ref b93)] [(.ref b2), (.ref b93)])) _
      refine XS.iconst X133.here hx rfl (hb hby at_236) ?_
      show Steps p.tables e below (T133.setTop (mkF m 237 #[.val (.int p1), .val (.int p2), .val (.int p3), .val (.int p4), .val (.int p5), .val (.int p6), .val (.int (1 : Int32)), .val (.ref b2), .val (.ref b30), .val (.int sa), .val (.int ea), .val (.int nl), .val (.ref b93)] [(.int (2 : Int32)), (.ref b2), (.ref b93)])) _
      refine XS.iload X133.here hx rfl (hb hby at_237) rfl ?_
      show Steps p.tables e below (T133.setTop (mkF m 239 #[.val (.int p1), .val (.int p2), .val (.int p3), .val (.int p4), .val (.int p5), .val (.int p6), .val (.int (1 : Int32)), .val (.ref b2), .val (.ref b30), .val (.int sa), .val (.int ea), .val (.int nl), .val (.ref b93)] [(.int nl), (.int (2 : Int32)), (.ref b2), (.ref b93)])) _
      refine XS.iload X133.here hx rfl (hb hby at_239) rfl ?_
      show Steps p.tables e below (T133.setTop (mkF m 241 #[.val (.int p1), .val (.int p2), .val (.int p3), .val (.int p4), .val (.int p5), .val (.int p6), .val (.int (1 : Int32)), .val (.ref b2), .val (.ref b30), .val (.int sa), .val (.int ea), .val (.int nl), .val (.ref b93)] [(.int sa), (.int nl), (.int (2 : Int32)), (.ref b2), (.ref b93)])) _
      refine XS.iload X133.here hx rfl (hb hby at_241) rfl ?_
      show Steps p.tables e below (T133.setTop (mkF m 243 #[.val (.int p1), .val (.int p2), .val (.int p3), .val (.int p4), .val (.int p5), .val (.int p6), .val (.int (1 : Int32)), .val (.ref b2), .val (.ref b30), .val (.int sa), .val (.int ea), .val (.int nl), .val (.ref b93)] [(.int ea), (.int sa), (.int nl), (.int (2 : Int32)), (.ref b2), (.ref b93)])) _
      exact k
    obtain ⟨_, _, ⟨T137, L137, kk137, nn137⟩, -, X137, ⟨Lc137, hQ137, lq137, yq137, zq137⟩, st137⟩ := Jvm.LawKit.callS X133 hx (y := (⟨"org/arborlog/pattern/LineTextDeletePinLaw", "slotOk", "([C[CIIII)Z"⟩ : MethodName)) hown (mvT hZ (hw _ (List.mem_of_getElem? (i := 34) rfl))) (mvT hZ (hw _ (List.mem_of_getElem? (i := 35) rfl))) (mvT hZ (hw _ (List.mem_of_getElem? (i := 36) rfl))) (mvT hZ (hw _ (List.mem_of_getElem? (i := 37) rfl))) (by decide) (backOf (W := 0) (rm6 l Z a0 hw [] b93 b2 (2 : Int32) nl sa ea kb93 kn2 zb93 vs107 [(.int (nar .char (p4.toUInt32.toUInt16.toUInt32.toInt32))), (.int (nar .char (((p4.toUInt32 >>> ((16 : Int32) &&& 31).toUInt32).toInt32).toUInt32.toUInt16.toUInt32.toInt32))), (.int (nar .char (p5.toUInt32.toUInt16.toUInt32.toInt32))), (.int (nar .char (((p5.toUInt32 >>> ((16 : Int32) &&& 31).toUInt32).toInt32).toUInt32.toUInt16.toUInt32.toInt32)))] T107.heap n0 Z111 Vb107 f109 (own_slot 2 rfl (by decide) hB hz93.1 h_nl hA107 hB107 hf)) hZ (hw _ (List.mem_of_getElem? (i := 37) rfl)) (hw _ (List.mem_of_getElem? (i := 36) rfl)) (by decide) (by decide)) (g := (mkF m 243 #[.val (.int p1), .val (.int p2), .val (.int p3), .val (.int p4), .val (.int p5), .val (.int p6), .val (.int (1 : Int32)), .val (.ref b2), .val (.ref b30), .val (.int sa), .val (.int ea), .val (.int nl), .val (.ref b93)] [(.int ea), (.int sa), (.int nl), (.int (2 : Int32)), (.ref b2), (.ref b93)])) rfl (by rw [hml]; rfl) (argsL := [(.ref b93), (.ref b2), (.int (2 : Int32)), (.int nl), (.int sa), (.int ea)]) (rest := []) (lenOf pd_7 rfl) rfl (by show 2 * 0 + _ ≤ _; exact Nat.le_of_eq rfl) (hb hby at_243) (fun _ _ => ⟨rfl, e133, (by decide : 4 + 0 ≤ _), (by decide : 24 + 0 ≤ _)⟩)
    dsimp only [Pt.U, Pt.locs, Pt.cells, Pt.slots] at X137 lq137 yq137 zq137 st137 hQ137
    subst lq137 yq137 zq137
    obtain ⟨rfl, Nq137, e137⟩ := hQ137
    have N138 := Fr.app N134 Nq137
    have K139 : ∀ t, Steps p.tables e below (T137.setTop (mkF m 246 #[.val (.int p1), .val (.int p2), .val (.int p3), .val (.int p4), .val (.int p5), .val (.int p6), .val (.int (1 : Int32)), .val (.ref b2), .val (.ref b30), .val (.int sa), .val (.int ea), .val (.int nl), .val (.ref b93)] [(.int (1 : Int32))])) t → Steps p.tables e below G t := fun t k => K136 t (st137 _ k)
    have K140 : ∀ t, Steps p.tables e below (T137.setTop (mkF m 260 #[.val (.int p1), .val (.int p2), .val (.int p3), .val (.int p4), .val (.int p5), .val (.int p6), .val (.int (1 : Int32)), .val (.ref b2), .val (.ref b30), .val (.int sa), .val (.int ea), .val (.int nl), .val (.ref b93)] [(.int ea), (.int sa), (.int nl), (.int (3 : Int32)), (.ref b2), (.ref b93)])) t → Steps p.tables e below G t := by
      intro t k
      refine K139 t ?_
      show Steps p.tables e below (T137.setTop (mkF m 246 #[.val (.int p1), .val (.int p2), .val (.int p3), .val (.int p4), .val (.int p5), .val (.int p6), .val (.int (1 : Int32)), .val (.ref b2), .val (.ref b30), .val (.int sa), .val (.int ea), .val (.int nl), .val (.ref b93)] [(.int (1 : Int32))])) _
      refine XS.ifNo X137.here hx rfl (hb hby at_246) rfl ((if0 _ _).trans (feq (by decide)).1) ?_
      show Steps p.tables e below (T137.setTop (mkF m 249 #[.val (.int p1), .val (.int p2), .val (.int p3), .val (.int p4), .val (.int p5), .val (.int p6), .val (.int (1 : Int32)), .val (.ref b2), .val (.ref b30), .val (.int sa), .val (.int ea), .val (.int nl), .val (.ref b93)] [])) _
      refine XS.aload X137.here hx rfl (hb hby at_249) rfl rfl ?_
      show Steps p.tables e below (T137.setTop (mkF m 251 #[.val (.int p1), .val (.int p2), .val (.int p3), .val (.int p4), .val (.int p5), .val (.int p6), .val (.int (1 : Int32)), .val (.ref b2), .val (.ref b30), .val (.int sa), .val (.int ea), .val (.int nl), .val (.ref b93)] [(.ref b93)])) _
      refine XS.aload X137.here hx rfl (hb hby at_251) rfl rfl ?_
      show Steps p.tables e below (T137.setTop (mkF m 253 #[.val (.int p1), .val (.int p2), .val (.int p3), .val (.int p4), .val (.int p5), .val (.int p6), .val (.int (1 : Int32)), .val (.ref b2), .val (.ref b30), .val (.int sa), .val (.int ea), .val (.int nl), .val (.ref b93)] [(.ref b2), (.ref b93)])) _
      refine XS.iconst X137.here hx rfl (hb hby at_253) ?_
      show Steps p.tables e below (T137.setTop (mkF m 254 #[.val (.int p1), .val (.int p2), .val (.int p3), .val (.int p4), .val (.int p5), .val (.int p6), .val (.int (1 : Int32)), .val (.ref b2), .val (.ref b30), .val (.int sa), .val (.int ea), .val (.int nl), .val (.ref b93)] [(.int (3 : Int32)), (.ref b2), (.ref b93)])) _
      refine XS.iload X137.here hx rfl (hb hby at_254) rfl ?_
      show Steps p.tables e below (T137.setTop (mkF m 256 #[.val (.int p1), .val (.int p2), .val (.int p3), .val (.int p4), .val (.int p5), .val (.int p6), .val (.int (1 : Int32)), .val (.ref b2), .val (.ref b30), .val (.int sa), .val (.int ea), .val (.int nl), .val (.ref b93)] [(.int nl), (.int (3 : Int32)), (.ref b2), (.ref b93)])) _
      refine XS.iload X137.here hx rfl (hb hby at_256) rfl ?_
      show Steps p.tables e below (T137.setTop (mkF m 258 #[.val (.int p1), .val (.int p2), .val (.int p3), .val (.int p4), .val (.int p5), .val (.int p6), .val (.int (1 : Int32)), .val (.ref b2), .val (.ref b30), .val (.int sa), .val (.int ea), .val (.int nl), .val (.ref b93)] [(.int sa), (.int nl), (.int (3 : Int32)), (.ref b2), (.ref b93)])) _
      refine XS.iload X137.here hx rfl (hb hby at_258) rfl ?_
      show Steps p.tables e below (T137.setTop (mkF m 260 #[.val (.int p1), .val (.int p2), .val (.int p3), .val (.int p4), .val (.int p5), .val (.int p6), .val (.int (1 : Int32)), .val (.ref b2), .val (.ref b30), .val (.int sa), .val (.int ea), .val (.int nl), .val (.ref b93)] [(.int ea), (.int sa), (.int nl), (.int (3 : Int32)), (.ref b2), (.ref b93)])) _
      exact k
    obtain ⟨_, _, ⟨T141, L141, kk141, nn141⟩, -, X141, ⟨Lc141, hQ141, lq141, yq141, zq141⟩, st141⟩ := Jvm.LawKit.callS X137 hx (y := (⟨"org/arborlog/pattern/LineTextDeletePinLaw", "slotOk", "([C[CIIII)Z"⟩ : MethodName)) hown (mvT hZ (hw _ (List.mem_of_getElem? (i := 34) rfl))) (mvT hZ (hw _ (List.mem_of_getElem? (i := 35) rfl))) (mvT hZ (hw _ (List.mem_of_getElem? (i := 36) rfl))) (mvT hZ (hw _ (List.mem_of_getElem? (i := 37) rfl))) (by decide) (backOf (W := 0) (rm6 l Z a0 hw [] b93 b2 (3 : Int32) nl sa ea kb93 kn2 zb93 vs107 [(.int (nar .char (p4.toUInt32.toUInt16.toUInt32.toInt32))), (.int (nar .char (((p4.toUInt32 >>> ((16 : Int32) &&& 31).toUInt32).toInt32).toUInt32.toUInt16.toUInt32.toInt32))), (.int (nar .char (p5.toUInt32.toUInt16.toUInt32.toInt32))), (.int (nar .char (((p5.toUInt32 >>> ((16 : Int32) &&& 31).toUInt32).toInt32).toUInt32.toUInt16.toUInt32.toInt32)))] T107.heap n0 Z111 Vb107 f109 (own_slot 3 rfl (by decide) hB hz93.1 h_nl hA107 hB107 hf)) hZ (hw _ (List.mem_of_getElem? (i := 37) rfl)) (hw _ (List.mem_of_getElem? (i := 36) rfl)) (by decide) (by decide)) (g := (mkF m 260 #[.val (.int p1), .val (.int p2), .val (.int p3), .val (.int p4), .val (.int p5), .val (.int p6), .val (.int (1 : Int32)), .val (.ref b2), .val (.ref b30), .val (.int sa), .val (.int ea), .val (.int nl), .val (.ref b93)] [(.int ea), (.int sa), (.int nl), (.int (3 : Int32)), (.ref b2), (.ref b93)])) rfl (by rw [hml]; rfl) (argsL := [(.ref b93), (.ref b2), (.int (3 : Int32)), (.int nl), (.int sa), (.int ea)]) (rest := []) (lenOf pd_7 rfl) rfl (by show 2 * 0 + _ ≤ _; exact Nat.le_of_eq rfl) (hb hby at_260) (fun _ _ => ⟨rfl, e137, (by decide : 4 + 0 ≤ _), (by decide : 24 + 0 ≤ _)⟩)
    dsimp only [Pt.U, Pt.locs, Pt.cells, Pt.slots] at X141 lq141 yq141 zq141 st141 hQ141
    subst lq141 yq141 zq141
    obtain ⟨rfl, Nq141, e141⟩ := hQ141
    have N142 := Fr.app N138 Nq141
    have K143 : ∀ t, Steps p.tables e below (T141.setTop (mkF m 263 #[.val (.int p1), .val (.int p2), .val (.int p3), .val (.int p4), .val (.int p5), .val (.int p6), .val (.int (1 : Int32)), .val (.ref b2), .val (.ref b30), .val (.int sa), .val (.int ea), .val (.int nl), .val (.ref b93)] [(.int (1 : Int32))])) t → Steps p.tables e below G t := fun t k => K140 t (st141 _ k)
    obtain ⟨fs, hr, hrun, hended, hW, hsame⟩ := X141.leave (v := some (.int (1 : Int32))) (fun h => by rw [Bd.returns] at h; cases h)
    have KF := K143
    rw [hG] at KF
    refine ⟨_, _, KF _ ?_, hrun, hended, _, _, rfl, ?_, ⟨_, rfl⟩, hW, hsame.mono (by decide) (by decide)⟩
    · show Steps p.tables e below (T141.setTop (mkF m 263 #[.val (.int p1), .val (.int p2), .val (.int p3), .val (.int p4), .val (.int p5), .val (.int p6), .val (.int (1 : Int32)), .val (.ref b2), .val (.ref b30), .val (.int sa), .val (.int ea), .val (.int nl), .val (.ref b93)] [(.int (1 : Int32))])) _
      refine XS.ifNo X141.here hx rfl (hb hby at_263) rfl ((if0 _ _).trans (feq (by decide)).1) ?_
      show Steps p.tables e below (T141.setTop (mkF m 266 #[.val (.int p1), .val (.int p2), .val (.int p3), .val (.int p4), .val (.int p5), .val (.int p6), .val (.int (1 : Int32)), .val (.ref b2), .val (.ref b30), .val (.int sa), .val (.int ea), .val (.int nl), .val (.ref b93)] [])) _
      refine XS.iconst X141.here hx rfl (hb hby at_266) ?_
      show Steps p.tables e below (T141.setTop (mkF m 267 #[.val (.int p1), .val (.int p2), .val (.int p3), .val (.int p4), .val (.int p5), .val (.int p6), .val (.int (1 : Int32)), .val (.ref b2), .val (.ref b30), .val (.int sa), .val (.int ea), .val (.int nl), .val (.ref b93)] [(.int (1 : Int32))])) _
      refine XS.goto X141.here hx rfl (pc0 := 267) (pc' := 271) rfl (hb hby at_267) (by decide) (by decide) ?_
      show Steps p.tables e below (T141.setTop (mkF m 271 #[.val (.int p1), .val (.int p2), .val (.int p3), .val (.int p4), .val (.int p5), .val (.int p6), .val (.int (1 : Int32)), .val (.ref b2), .val (.ref b30), .val (.int sa), .val (.int ea), .val (.int nl), .val (.ref b93)] [(.int (1 : Int32))])) _
      exact retN X141 hx (t := .boolean) Bd.returns (by simp) (hb hby at_271) hr
    · show Q0 n0 _ T141.heap _
      rw [e141]
      exact ⟨rfl, N142⟩
  · have K144 : ∀ t, Steps p.tables e below (T38.setTop (mkF m 59 #[.val (.int p1), .val (.int p2), .val (.int p3), .val (.int p4), .val (.int p5), .val (.int p6), .val (.int (2 : Int32)), .val (.ref b2), .val (.ref b30), .unset, .unset, .unset, .unset] [])) t → Steps p.tables e below G t := by have q := K45; rw [hN] at q; exact q
    have K145 : ∀ t, Steps p.tables e below (T38.setTop (mkF m 69 #[.val (.int p1), .val (.int p2), .val (.int p3), .val (.int p4), .val (.int p5), .val (.int p6), .val (.int (2 : Int32)), .val (.ref b2), .val (.ref b30), .unset, .unset, .unset, .unset] [(.int (0 : Int32)), (.ref b2), (.ref b30)])) t → Steps p.tables e below G t := by
      intro t k
      refine K144 t ?_
      show Steps p.tables e below (T38.setTop (mkF m 59 #[.val (.int p1), .val (.int p2), .val (.int p3), .val (.int p4), .val (.int p5), .val (.int p6), .val (.int (2 : Int32)), .val (.ref b2), .val (.ref b30), .unset, .unset, .unset, .unset] [])) _
      refine XS.iload X38.here hx rfl (hb hby at_59) rfl ?_
      show Steps p.tables e below (T38.setTop (mkF m 61 #[.val (.int p1), .val (.int p2), .val (.int p3), .val (.int p4), .val (.int p5), .val (.int p6), .val (.int (2 : Int32)), .val (.ref b2), .val (.ref b30), .unset, .unset, .unset, .unset] [(.int (2 : Int32))])) _
      refine XS.ifNo X38.here hx rfl (hb hby at_61) rfl ((if0 _ _).trans (tlt (by decide)).2.2.2) ?_
      show Steps p.tables e below (T38.setTop (mkF m 64 #[.val (.int p1), .val (.int p2), .val (.int p3), .val (.int p4), .val (.int p5), .val (.int p6), .val (.int (2 : Int32)), .val (.ref b2), .val (.ref b30), .unset, .unset, .unset, .unset] [])) _
      refine XS.aload X38.here hx rfl (hb hby at_64) rfl rfl ?_
      show Steps p.tables e below (T38.setTop (mkF m 66 #[.val (.int p1), .val (.int p2), .val (.int p3), .val (.int p4), .val (.int p5), .val (.int p6), .val (.int (2 : Int32)), .val (.ref b2), .val (.ref b30), .unset, .unset, .unset, .unset] [(.ref b30)])) _
      refine XS.aload X38.here hx rfl (hb hby at_66) rfl rfl ?_
      show Steps p.tables e below (T38.setTop (mkF m 68 #[.val (.int p1), .val (.int p2), .val (.int p3), .val (.int p4), .val (.int p5), .val (.int p6), .val (.int (2 : Int32)), .val (.ref b2), .val (.ref b30), .unset, .unset, .unset, .unset] [(.ref b2), (.ref b30)])) _
      refine XS.iconst X38.here hx rfl (hb hby at_68) ?_
      show Steps p.tables e below (T38.setTop (mkF m 69 #[.val (.int p1), .val (.int p2), .val (.int p3), .val (.int p4), .val (.int p5), .val (.int p6), .val (.int (2 : Int32)), .val (.ref b2), .val (.ref b30), .unset, .unset, .unset, .unset] [(.int (0 : Int32)), (.ref b2), (.ref b30)])) _
      exact k
    obtain ⟨cl146, Ar146, qc146, S146, M146, Ha146, Ga146⟩ := id f40
    have hin146 : ¬ ((0 : Int32) < 0 ∨ cl146.slots.size ≤ ((0 : Int32)).toNatClampNeg) := inb_of S146 ⟨by decide, by decide⟩
    have hat146 : cl146.slots[((0 : Int32)).toNatClampNeg]? = some (.int (nar .char (p4.toUInt32.toUInt16.toUInt32.toInt32))) := Ha146.at hin146 rfl
    have K147 : ∀ t, Steps p.tables e below (T38.setTop (mkF m 70 #[.val (.int p1), .val (.int p2), .val (.int p3), .val (.int p4), .val (.int p5), .val (.int p6), .val (.int (2 : Int32)), .val (.ref b2), .val (.ref b30), .unset, .unset, .unset, .unset] [(.int (nar .char (p4.toUInt32.toUInt16.toUInt32.toInt32))), (.ref b30)])) t → Steps p.tables e below G t := fun t k => K145 t (X38.caload hx (j := (0 : Int32)) (v := (.int (nar .char (p4.toUInt32.toUInt16.toUInt32.toInt32)))) Ar146.1 (State.isArrayOf_alike hZ.alike Ar146.2.1) Ar146.2.2 hin146 hat146 (g := (mkF m 69 #[.val (.int p1), .val (.int p2), .val (.int p3), .val (.int p4), .val (.int p5), .val (.int p6), .val (.int (2 : Int32)), .val (.ref b2), .val (.ref b30), .unset, .unset, .unset, .unset] [(.int (0 : Int32)), (.ref b2), (.ref b30)])) rfl rfl (hb hby at_69) _ k)
    obtain ⟨cq148, kq148, q148a, q148b, q148c⟩ := isOf hZ rfl E38'
    obtain ⟨_, _, ⟨T148, L148, kk148, nn148⟩, -, X148, ⟨Lc148, hQ148, lq148, yq148, zq148⟩, st148⟩ := X38.virtualBack hx (y := (⟨"org/arborlog/pattern/LineText", "append", "(C)Lorg/arborlog/pattern/LineText;"⟩ : MethodName)) (z := (⟨"org/arborlog/pattern/LineText", "append", "(C)Lorg/arborlog/pattern/LineText;"⟩ : MethodName)) hown (mvT hZ (hw _ (List.mem_of_getElem? (i := 38) rfl))) (mvT hZ (hw _ (List.mem_of_getElem? (i := 39) rfl))) (notFace_of_selects (args := #[]) (mvT hZ (hw _ (List.mem_of_getElem? (i := 41) rfl)))) (mvT hZ (hw _ (List.mem_of_getElem? (i := 41) rfl))) (mvT hZ (hw _ (List.mem_of_getElem? (i := 40) rfl))) (by decide) (backOf (W := 0) (rm7 l Z a0 hw [] b30 (nar .char (p4.toUInt32.toUInt16.toUInt32.toInt32)) b38 kb38 (p6 &&& (7 : Int32)) (0 : Int32) [] T38.heap n0 Z42 E38' Fc38 Fl38 Vb38 ne_b30_b38 g_b30 g_b38 ⟨by decide, by decide⟩ hc7.1 hc7.2.2) hZ (hw _ (List.mem_of_getElem? (i := 42) rfl)) (hw _ (List.mem_of_getElem? (i := 4) rfl)) (by decide) (by decide)) q148a q148c (g := (mkF m 70 #[.val (.int p1), .val (.int p2), .val (.int p3), .val (.int p4), .val (.int p5), .val (.int p6), .val (.int (2 : Int32)), .val (.ref b2), .val (.ref b30), .unset, .unset, .unset, .unset] [(.int (nar .char (p4.toUInt32.toUInt16.toUInt32.toInt32))), (.ref b30)])) rfl (by rw [hml]; rfl) (Steps.refl _) (argsL := [(.int (nar .char (p4.toUInt32.toUInt16.toUInt32.toInt32)))]) (rest := []) (lenOf pd_8 rfl) rfl (by show 2 * 0 + _ ≤ _; exact Nat.le_of_eq rfl) (hb hby at_70) (fun _ _ => ⟨rfl, rfl, (by decide : 3 + 1 ≤ _), (by decide : 14 + 10 ≤ _)⟩)
    dsimp only [Pt.U, Pt.locs, Pt.cells, Pt.slots] at X148 lq148 yq148 zq148 st148 hQ148
    subst lq148 yq148 zq148
    obtain ⟨b148, kb148, zb148, vs148, rfl, Nq148, K148, ob148, E148', Fc148, Fl148, Vb148, hz148, hc148, hd148⟩ := hQ148
    have N149 := Fr.app N39 Nq148
    have gb148 : n0 ≤ b148 := ob148.elim (fun q => q ▸ g_b38) (fun q => Nat.le_trans Z42 q)
    have sz148 : h0.size ≤ b148 := ob148.elim (fun q => q ▸ sz_b38) (fun q => Nat.le_trans KP43.1 q)
    have ne_b2_b148 : b2 ≠ b148 := ob148.elim (fun q => q ▸ ne_b2_b38) (fun q => Nat.ne_of_lt (Nat.lt_of_lt_of_le f40.lt q))
    have ne_b30_b148 : b30 ≠ b148 := ob148.elim (fun q => q ▸ ne_b30_b38) (fun q => Nat.ne_of_lt (Nat.lt_of_lt_of_le E38'.lt q))
    have f150 := f40.keep K148 (ninS ne_b2_b30 (ninS ne_b2_b38 nin0))
    have f151 := E38'.keep K148
    have Z152 : n0 ≤ T148.heap.size := Nat.le_trans Z42 K148.1
    have KP153 : Keep h0 T148.heap [] := KP43.trans K148 (allS (Or.inr sz_b30) (allS (Or.inr sz_b38) all0))
    have f154 : Fld Z T148.heap b30 "org/arborlog/pattern/LineText" "length" "I" (.int (1 : Int32)) := Fl148
    have ct155 : vs148.getD 0 (Value.int (0 : Int32)) = .int (nar .char (nar .char (p4.toUInt32.toUInt16.toUInt32.toInt32))) := hd148
    have K156 : ∀ t, Steps p.tables e below (T148.setTop (mkF m 73 #[.val (.int p1), .val (.int p2), .val (.int p3), .val (.int p4), .val (.int p5), .val (.int p6), .val (.int (2 : Int32)), .val (.ref b2), .val (.ref b30), .unset, .unset, .unset, .unset] [(.ref b30)])) t → Steps p.tables e below G t := fun t k => K147 t (st148.trans k)
    have K157 : ∀ t, Steps p.tables e below (T148.setTop (mkF m 85 #[.val (.int p1), .val (.int p2), .val (.int p3), .val (.int p4), .val (.int p5), .val (.int p6), .val (.int (2 : Int32)), .val (.ref b2), .val (.ref b30), .unset, .unset, .unset, .unset] [(.int (1 : Int32)), (.ref b2), (.ref b30)])) t → Steps p.tables e below G t := by
      intro t k
      refine K156 t ?_
      show Steps p.tables e below (T148.setTop (mkF m 73 #[.val (.int p1), .val (.int p2), .val (.int p3), .val (.int p4), .val (.int p5), .val (.int p6), .val (.int (2 : Int32)), .val (.ref b2), .val (.ref b30), .unset, .unset, .unset, .unset] [(.ref b30)])) _
      refine XS.pop X148.here hx rfl (hb hby at_73) rfl rfl ?_
      show Steps p.tables e below (T148.setTop (mkF m 74 #[.val (.int p1), .val (.int p2), .val (.int p3), .val (.int p4), .val (.int p5), .val (.int p6), .val (.int (2 : Int32)), .val (.ref b2), .val (.ref b30), .unset, .unset, .unset, .unset] [])) _
      refine XS.iload X148.here hx rfl (hb hby at_74) rfl ?_
      show Steps p.tables e below (T148.setTop (mkF m 76 #[.val (.int p1), .val (.int p2), .val (.int p3), .val (.int p4), .val (.int p5), .val (.int p6), .val (.int (2 : Int32)), .val (.ref b2), .val (.ref b30), .unset, .unset, .unset, .unset] [(.int (2 : Int32))])) _
      refine XS.iconst X148.here hx rfl (hb hby at_76) ?_
      show Steps p.tables e below (T148.setTop (mkF m 77 #[.val (.int p1), .val (.int p2), .val (.int p3), .val (.int p4), .val (.int p5), .val (.int p6), .val (.int (2 : Int32)), .val (.ref b2), .val (.ref b30), .unset, .unset, .unset, .unset] [(.int (1 : Int32)), (.int (2 : Int32))])) _
      refine XS.icmpNo X148.here hx rfl (hb hby at_77) rfl (tlt (by decide)).2.2.2 ?_
      show Steps p.tables e below (T148.setTop (mkF m 80 #[.val (.int p1), .val (.int p2), .val (.int p3), .val (.int p4), .val (.int p5), .val (.int p6), .val (.int (2 : Int32)), .val (.ref b2), .val (.ref b30), .unset, .unset, .unset, .unset] [])) _
      refine XS.aload X148.here hx rfl (hb hby at_80) rfl rfl ?_
      show Steps p.tables e below (T148.setTop (mkF m 82 #[.val (.int p1), .val (.int p2), .val (.int p3), .val (.int p4), .val (.int p5), .val (.int p6), .val (.int (2 : Int32)), .val (.ref b2), .val (.ref b30), .unset, .unset, .unset, .unset] [(.ref b30)])) _
      refine XS.aload X148.here hx rfl (hb hby at_82) rfl rfl ?_
      show Steps p.tables e below (T148.setTop (mkF m 84 #[.val (.int p1), .val (.int p2), .val (.int p3), .val (.int p4), .val (.int p5), .val (.int p6), .val (.int (2 : Int32)), .val (.ref b2), .val (.ref b30), .unset, .unset, .unset, .unset] [(.ref b2), (.ref b30)])) _
      refine XS.iconst X148.here hx rfl (hb hby at_84) ?_
      show Steps p.tables e below (T148.setTop (mkF m 85 #[.val (.int p1), .val (.int p2), .val (.int p3), .val (.int p4), .val (.int p5), .val (.int p6), .val (.int (2 : Int32)), .val (.ref b2), .val (.ref b30), .unset, .unset, .unset, .unset] [(.int (1 : Int32)), (.ref b2), (.ref b30)])) _
      exact k
    obtain ⟨cl158, Ar158, qc158, S158, M158, Ha158, Ga158⟩ := id f150
    have hin158 : ¬ ((1 : Int32) < 0 ∨ cl158.slots.size ≤ ((1 : Int32)).toNatClampNeg) := inb_of S158 ⟨by decide, by decide⟩
    have hat158 : cl158.slots[((1 : Int32)).toNatClampNeg]? = some (.int (nar .char (((p4.toUInt32 >>> ((16 : Int32) &&& 31).toUInt32).toInt32).toUInt32.toUInt16.toUInt32.toInt32))) := Ha158.at hin158 rfl
    have K159 : ∀ t, Steps p.tables e below (T148.setTop (mkF m 86 #[.val (.int p1), .val (.int p2), .val (.int p3), .val (.int p4), .val (.int p5), .val (.int p6), .val (.int (2 : Int32)), .val (.ref b2), .val (.ref b30), .unset, .unset, .unset, .unset] [(.int (nar .char (((p4.toUInt32 >>> ((16 : Int32) &&& 31).toUInt32).toInt32).toUInt32.toUInt16.toUInt32.toInt32))), (.ref b30)])) t → Steps p.tables e below G t := fun t k => K157 t (X148.caload hx (j := (1 : Int32)) (v := (.int (nar .char (((p4.toUInt32 >>> ((16 : Int32) &&& 31).toUInt32).toInt32).toUInt32.toUInt16.toUInt32.toInt32)))) Ar158.1 (State.isArrayOf_alike hZ.alike Ar158.2.1) Ar158.2.2 hin158 hat158 (g := (mkF m 85 #[.val (.int p1), .val (.int p2), .val (.int p3), .val (.int p4), .val (.int p5), .val (.int p6), .val (.int (2 : Int32)), .val (.ref b2), .val (.ref b30), .unset, .unset, .unset, .unset] [(.int (1 : Int32)), (.ref b2), (.ref b30)])) rfl rfl (hb hby at_85) _ k)
    obtain ⟨cq160, kq160, q160a, q160b, q160c⟩ := isOf hZ rfl E148'
    obtain ⟨_, _, ⟨T160, L160, kk160, nn160⟩, -, X160, ⟨Lc160, hQ160, lq160, yq160, zq160⟩, st160⟩ := X148.virtualBack hx (y := (⟨"org/arborlog/pattern/LineText", "append", "(C)Lorg/arborlog/pattern/LineText;"⟩ : MethodName)) (z := (⟨"org/arborlog/pattern/LineText", "append", "(C)Lorg/arborlog/pattern/LineText;"⟩ : MethodName)) hown (mvT hZ (hw _ (List.mem_of_getElem? (i := 38) rfl))) (mvT hZ (hw _ (List.mem_of_getElem? (i := 39) rfl))) (notFace_of_selects (args := #[]) (mvT hZ (hw _ (List.mem_of_getElem? (i := 41) rfl)))) (mvT hZ (hw _ (List.mem_of_getElem? (i := 41) rfl))) (mvT hZ (hw _ (List.mem_of_getElem? (i := 40) rfl))) (by decide) (backOf (W := 0) (rm7 l Z a0 hw [] b30 (nar .char (((p4.toUInt32 >>> ((16 : Int32) &&& 31).toUInt32).toInt32).toUInt32.toUInt16.toUInt32.toInt32)) b148 kb148 zb148 (1 : Int32) vs148 T148.heap n0 Z152 E148' Fc148 f154 Vb148 ne_b30_b148 g_b30 gb148 ⟨by decide, by decide⟩ hz148.1 hz148.2) hZ (hw _ (List.mem_of_getElem? (i := 42) rfl)) (hw _ (List.mem_of_getElem? (i := 4) rfl)) (by decide) (by decide)) q160a q160c (g := (mkF m 86 #[.val (.int p1), .val (.int p2), .val (.int p3), .val (.int p4), .val (.int p5), .val (.int p6), .val (.int (2 : Int32)), .val (.ref b2), .val (.ref b30), .unset, .unset, .unset, .unset] [(.int (nar .char (((p4.toUInt32 >>> ((16 : Int32) &&& 31).toUInt32).toInt32).toUInt32.toUInt16.toUInt32.toInt32))), (.ref b30)])) rfl (by rw [hml]; rfl) (Steps.refl _) (argsL := [(.int (nar .char (((p4.toUInt32 >>> ((16 : Int32) &&& 31).toUInt32).toInt32).toUInt32.toUInt16.toUInt32.toInt32)))]) (rest := []) (lenOf pd_8 rfl) rfl (by show 2 * 0 + _ ≤ _; exact Nat.le_of_eq rfl) (hb hby at_86) (fun _ _ => ⟨rfl, rfl, (by decide : 4 + 1 ≤ _), (by decide : 24 + 10 ≤ _)⟩)
    dsimp only [Pt.U, Pt.locs, Pt.cells, Pt.slots] at X160 lq160 yq160 zq160 st160 hQ160
    subst lq160 yq160 zq160
    obtain ⟨b160, kb160, zb160, vs160, rfl, Nq160, K160, ob160, E160', Fc160, Fl160, Vb160, hz160, hc160, hd160⟩ := hQ160
    have N161 := Fr.app N149 Nq160
    have gb160 : n0 ≤ b160 := ob160.elim (fun q => q ▸ gb148) (fun q => Nat.le_trans Z152 q)
    have sz160 : h0.size ≤ b160 := ob160.elim (fun q => q ▸ sz148) (fun q => Nat.le_trans KP153.1 q)
    have ne_b2_b160 : b2 ≠ b160 := ob160.elim (fun q => q ▸ ne_b2_b148) (fun q => Nat.ne_of_lt (Nat.lt_of_lt_of_le f150.lt q))
    have ne_b30_b160 : b30 ≠ b160 := ob160.elim (fun q => q ▸ ne_b30_b148) (fun q => Nat.ne_of_lt (Nat.lt_of_lt_of_le E148'.lt q))
    have f162 := f150.keep K160 (ninS ne_b2_b30 (ninS ne_b2_b148 nin0))
    have f163 := E148'.keep K160
    have Z164 : n0 ≤ T160.heap.size := Nat.le_trans Z152 K160.1
    have KP165 : Keep h0 T160.heap [] := KP153.trans K160 (allS (Or.inr sz_b30) (allS (Or.inr sz148) all0))
    have f166 : Fld Z T160.heap b30 "org/arborlog/pattern/LineText" "length" "I" (.int (2 : Int32)) := Fl160
    have ct167 : vs160.getD 0 (Value.int (0 : Int32)) = .int (nar .char (nar .char (p4.toUInt32.toUInt16.toUInt32.toInt32))) := (hc160 0 (by decide)).trans ct155
    have ct168 : vs160.getD 1 (Value.int (0 : Int32)) = .int (nar .char (nar .char (((p4.toUInt32 >>> ((16 : Int32) &&& 31).toUInt32).toInt32).toUInt32.toUInt16.toUInt32.toInt32))) := hd160
    have K169 : ∀ t, Steps p.tables e below (T160.setTop (mkF m 89 #[.val (.int p1), .val (.int p2), .val (.int p3), .val (.int p4), .val (.int p5), .val (.int p6), .val (.int (2 : Int32)), .val (.ref b2), .val (.ref b30), .unset, .unset, .unset, .unset] [(.ref b30)])) t → Steps p.tables e below G t := fun t k => K159 t (st160.trans k)
    have K170 : ∀ t, Steps p.tables e below (T160.setTop (mkF m 131 #[.val (.int p1), .val (.int p2), .val (.int p3), .val (.int p4), .val (.int p5), .val (.int p6), .val (.int (2 : Int32)), .val (.ref b2), .val (.ref b30), .unset, .unset, .unset, .unset] [(.int ((p2 &&& (2147483647 : Int32)) % (3 : Int32)))])) t → Steps p.tables e below G t := by
      intro t k
      refine K169 t ?_
      show Steps p.tables e below (T160.setTop (mkF m 89 #[.val (.int p1), .val (.int p2), .val (.int p3), .val (.int p4), .val (.int p5), .val (.int p6), .val (.int (2 : Int32)), .val (.ref b2), .val (.ref b30), .unset, .unset, .unset, .unset] [(.ref b30)])) _
      refine XS.pop X160.here hx rfl (hb hby at_89) rfl rfl ?_
      show Steps p.tables e below (T160.setTop (mkF m 90 #[.val (.int p1), .val (.int p2), .val (.int p3), .val (.int p4), .val (.int p5), .val (.int p6), .val (.int (2 : Int32)), .val (.ref b2), .val (.ref b30), .unset, .unset, .unset, .unset] [])) _
      refine XS.iload X160.here hx rfl (hb hby at_90) rfl ?_
      show Steps p.tables e below (T160.setTop (mkF m 92 #[.val (.int p1), .val (.int p2), .val (.int p3), .val (.int p4), .val (.int p5), .val (.int p6), .val (.int (2 : Int32)), .val (.ref b2), .val (.ref b30), .unset, .unset, .unset, .unset] [(.int (2 : Int32))])) _
      refine XS.iconst X160.here hx rfl (hb hby at_92) ?_
      show Steps p.tables e below (T160.setTop (mkF m 93 #[.val (.int p1), .val (.int p2), .val (.int p3), .val (.int p4), .val (.int p5), .val (.int p6), .val (.int (2 : Int32)), .val (.ref b2), .val (.ref b30), .unset, .unset, .unset, .unset] [(.int (2 : Int32)), (.int (2 : Int32))])) _
      refine XS.icmpYes X160.here hx rfl (pc0 := 93) (pc' := 106) rfl (hb hby at_93) rfl (flt (by decide)).2.2.2 (by decide) (by decide) ?_
      show Steps p.tables e below (T160.setTop (mkF m 106 #[.val (.int p1), .val (.int p2), .val (.int p3), .val (.int p4), .val (.int p5), .val (.int p6), .val (.int (2 : Int32)), .val (.ref b2), .val (.ref b30), .unset, .unset, .unset, .unset] [])) _
      refine XS.iload X160.here hx rfl (hb hby at_106) rfl ?_
      show Steps p.tables e below (T160.setTop (mkF m 108 #[.val (.int p1), .val (.int p2), .val (.int p3), .val (.int p4), .val (.int p5), .val (.int p6), .val (.int (2 : Int32)), .val (.ref b2), .val (.ref b30), .unset, .unset, .unset, .unset] [(.int (2 : Int32))])) _
      refine XS.iconst X160.here hx rfl (hb hby at_108) ?_
      show Steps p.tables e below (T160.setTop (mkF m 109 #[.val (.int p1), .val (.int p2), .val (.int p3), .val (.int p4), .val (.int p5), .val (.int p6), .val (.int (2 : Int32)), .val (.ref b2), .val (.ref b30), .unset, .unset, .unset, .unset] [(.int (3 : Int32)), (.int (2 : Int32))])) _
      refine XS.icmpYes X160.here hx rfl (pc0 := 109) (pc' := 122) rfl (hb hby at_109) rfl (flt (by decide)).2.2.2 (by decide) (by decide) ?_
      show Steps p.tables e below (T160.setTop (mkF m 122 #[.val (.int p1), .val (.int p2), .val (.int p3), .val (.int p4), .val (.int p5), .val (.int p6), .val (.int (2 : Int32)), .val (.ref b2), .val (.ref b30), .unset, .unset, .unset, .unset] [])) _
      refine XS.iloadN X160.here hx rfl (hb hby at_122) rfl ?_
      show Steps p.tables e below (T160.setTop (mkF m 123 #[.val (.int p1), .val (.int p2), .val (.int p3), .val (.int p4), .val (.int p5), .val (.int p6), .val (.int (2 : Int32)), .val (.ref b2), .val (.ref b30), .unset, .unset, .unset, .unset] [(.int p2)])) _
      refine X160.ldcInt hx hown (mvT hZ (hw _ (List.mem_of_getElem? (i := 0) rfl))) (g := (mkF m 123 #[.val (.int p1), .val (.int p2), .val (.int p3), .val (.int p4), .val (.int p5), .val (.int p6), .val (.int (2 : Int32)), .val (.ref b2), .val (.ref b30), .unset, .unset, .unset, .unset] [(.int p2)])) rfl (hb hby at_123) _ ?_
      show Steps p.tables e below (T160.setTop (mkF m 125 #[.val (.int p1), .val (.int p2), .val (.int p3), .val (.int p4), .val (.int p5), .val (.int p6), .val (.int (2 : Int32)), .val (.ref b2), .val (.ref b30), .unset, .unset, .unset, .unset] [(.int (2147483647 : Int32)), (.int p2)])) _
      refine XS.iand X160.here hx rfl (hb hby at_125) rfl ?_
      show Steps p.tables e below (T160.setTop (mkF m 126 #[.val (.int p1), .val (.int p2), .val (.int p3), .val (.int p4), .val (.int p5), .val (.int p6), .val (.int (2 : Int32)), .val (.ref b2), .val (.ref b30), .unset, .unset, .unset, .unset] [(.int (p2 &&& (2147483647 : Int32)))])) _
      refine XS.iload X160.here hx rfl (hb hby at_126) rfl ?_
      show Steps p.tables e below (T160.setTop (mkF m 128 #[.val (.int p1), .val (.int p2), .val (.int p3), .val (.int p4), .val (.int p5), .val (.int p6), .val (.int (2 : Int32)), .val (.ref b2), .val (.ref b30), .unset, .unset, .unset, .unset] [(.int (2 : Int32)), (.int (p2 &&& (2147483647 : Int32)))])) _
      refine XS.iconst X160.here hx rfl (hb hby at_128) ?_
      show Steps p.tables e below (T160.setTop (mkF m 129 #[.val (.int p1), .val (.int p2), .val (.int p3), .val (.int p4), .val (.int p5), .val (.int p6), .val (.int (2 : Int32)), .val (.ref b2), .val (.ref b30), .unset, .unset, .unset, .unset] [(.int (1 : Int32)), (.int (2 : Int32)), (.int (p2 &&& (2147483647 : Int32)))])) _
      refine XS.iadd X160.here hx rfl (hb hby at_129) rfl ?_
      show Steps p.tables e below (T160.setTop (mkF m 130 #[.val (.int p1), .val (.int p2), .val (.int p3), .val (.int p4), .val (.int p5), .val (.int p6), .val (.int (2 : Int32)), .val (.ref b2), .val (.ref b30), .unset, .unset, .unset, .unset] [(.int (3 : Int32)), (.int (p2 &&& (2147483647 : Int32)))])) _
      refine iremM X160 hx rfl (hb hby at_130) rfl (by decide) ?_
      show Steps p.tables e below (T160.setTop (mkF m 131 #[.val (.int p1), .val (.int p2), .val (.int p3), .val (.int p4), .val (.int p5), .val (.int p6), .val (.int (2 : Int32)), .val (.ref b2), .val (.ref b30), .unset, .unset, .unset, .unset] [(.int ((p2 &&& (2147483647 : Int32)) % (3 : Int32)))])) _
      exact k
    obtain ⟨sa, h_sa⟩ : ∃ z_ : Int32, z_ = ((p2 &&& (2147483647 : Int32)) % (3 : Int32)) := ⟨_, rfl⟩
    have K171 : ∀ t, Steps p.tables e below (T160.setTop (mkF m 131 #[.val (.int p1), .val (.int p2), .val (.int p3), .val (.int p4), .val (.int p5), .val (.int p6), .val (.int (2 : Int32)), .val (.ref b2), .val (.ref b30), .unset, .unset, .unset, .unset] [(.int sa)])) t → Steps p.tables e below G t := by rw [h_sa]; exact K170
    have hsa := own_st p2 (2 : Int32) (3 : Int32) rfl (by decide) sa h_sa
    have K172 : ∀ t, Steps p.tables e below (T160.setTop (mkF m 148 #[.val (.int p1), .val (.int p2), .val (.int p3), .val (.int p4), .val (.int p5), .val (.int p6), .val (.int (2 : Int32)), .val (.ref b2), .val (.ref b30), .val (.int sa), .unset, .unset, .unset] [(.int (sa + ((p3 &&& (2147483647 : Int32)) % (((2 : Int32) - sa) + (1 : Int32)))))])) t → Steps p.tables e below G t := by
      intro t k
      refine K171 t ?_
      show Steps p.tables e below (T160.setTop (mkF m 131 #[.val (.int p1), .val (.int p2), .val (.int p3), .val (.int p4), .val (.int p5), .val (.int p6), .val (.int (2 : Int32)), .val (.ref b2), .val (.ref b30), .unset, .unset, .unset, .unset] [(.int sa)])) _
      refine XS.istore X160.here hx rfl (hb hby at_131) rfl (l' := #[.val (.int p1), .val (.int p2), .val (.int p3), .val (.int p4), .val (.int p5), .val (.int p6), .val (.int (2 : Int32)), .val (.ref b2), .val (.ref b30), .val (.int sa), .unset, .unset, .unset]) rfl ?_
      show Steps p.tables e below (T160.setTop (mkF m 133 #[.val (.int p1), .val (.int p2), .val (.int p3), .val (.int p4), .val (.int p5), .val (.int p6), .val (.int (2 : Int32)), .val (.ref b2), .val (.ref b30), .val (.int sa), .unset, .unset, .unset] [])) _
      refine XS.iload X160.here hx rfl (hb hby at_133) rfl ?_
      show Steps p.tables e below (T160.setTop (mkF m 135 #[.val (.int p1), .val (.int p2), .val (.int p3), .val (.int p4), .val (.int p5), .val (.int p6), .val (.int (2 : Int32)), .val (.ref b2), .val (.ref b30), .val (.int sa), .unset, .unset, .unset] [(.int sa)])) _
      refine XS.iloadN X160.here hx rfl (hb hby at_135) rfl ?_
      show Steps p.tables e below (T160.setTop (mkF m 136 #[.val (.int p1), .val (.int p2), .val (.int p3), .val (.int p4), .val (.int p5), .val (.int p6), .val (.int (2 : Int32)), .val (.ref b2), .val (.ref b30), .val (.int sa), .unset, .unset, .unset] [(.int p3), (.int sa)])) _
      refine X160.ldcInt hx hown (mvT hZ (hw _ (List.mem_of_getElem? (i := 0) rfl))) (g := (mkF m 136 #[.val (.int p1), .val (.int p2), .val (.int p3), .val (.int p4), .val (.int p5), .val (.int p6), .val (.int (2 : Int32)), .val (.ref b2), .val (.ref b30), .val (.int sa), .unset, .unset, .unset] [(.int p3), (.int sa)])) rfl (hb hby at_136) _ ?_
      show Steps p.tables e below (T160.setTop (mkF m 138 #[.val (.int p1), .val (.int p2), .val (.int p3), .val (.int p4), .val (.int p5), .val (.int p6), .val (.int (2 : Int32)), .val (.ref b2), .val (.ref b30), .val (.int sa), .unset, .unset, .unset] [(.int (2147483647 : Int32)), (.int p3), (.int sa)])) _
      refine XS.iand X160.here hx rfl (hb hby at_138) rfl ?_
      show Steps p.tables e below (T160.setTop (mkF m 139 #[.val (.int p1), .val (.int p2), .val (.int p3), .val (.int p4), .val (.int p5), .val (.int p6), .val (.int (2 : Int32)), .val (.ref b2), .val (.ref b30), .val (.int sa), .unset, .unset, .unset] [(.int (p3 &&& (2147483647 : Int32))), (.int sa)])) _
      refine XS.iload X160.here hx rfl (hb hby at_139) rfl ?_
      show Steps p.tables e below (T160.setTop (mkF m 141 #[.val (.int p1), .val (.int p2), .val (.int p3), .val (.int p4), .val (.int p5), .val (.int p6), .val (.int (2 : Int32)), .val (.ref b2), .val (.ref b30), .val (.int sa), .unset, .unset, .unset] [(.int (2 : Int32)), (.int (p3 &&& (2147483647 : Int32))), (.int sa)])) _
      refine XS.iload X160.here hx rfl (hb hby at_141) rfl ?_
      show Steps p.tables e below (T160.setTop (mkF m 143 #[.val (.int p1), .val (.int p2), .val (.int p3), .val (.int p4), .val (.int p5), .val (.int p6), .val (.int (2 : Int32)), .val (.ref b2), .val (.ref b30), .val (.int sa), .unset, .unset, .unset] [(.int sa), (.int (2 : Int32)), (.int (p3 &&& (2147483647 : Int32))), (.int sa)])) _
      refine XS.isub X160.here hx rfl (hb hby at_143) rfl ?_
      show Steps p.tables e below (T160.setTop (mkF m 144 #[.val (.int p1), .val (.int p2), .val (.int p3), .val (.int p4), .val (.int p5), .val (.int p6), .val (.int (2 : Int32)), .val (.ref b2), .val (.ref b30), .val (.int sa), .unset, .unset, .unset] [(.int ((2 : Int32) - sa)), (.int (p3 &&& (2147483647 : Int32))), (.int sa)])) _
      refine XS.iconst X160.here hx rfl (hb hby at_144) ?_
      show Steps p.tables e below (T160.setTop (mkF m 145 #[.val (.int p1), .val (.int p2), .val (.int p3), .val (.int p4), .val (.int p5), .val (.int p6), .val (.int (2 : Int32)), .val (.ref b2), .val (.ref b30), .val (.int sa), .unset, .unset, .unset] [(.int (1 : Int32)), (.int ((2 : Int32) - sa)), (.int (p3 &&& (2147483647 : Int32))), (.int sa)])) _
      refine XS.iadd X160.here hx rfl (hb hby at_145) rfl ?_
      show Steps p.tables e below (T160.setTop (mkF m 146 #[.val (.int p1), .val (.int p2), .val (.int p3), .val (.int p4), .val (.int p5), .val (.int p6), .val (.int (2 : Int32)), .val (.ref b2), .val (.ref b30), .val (.int sa), .unset, .unset, .unset] [(.int (((2 : Int32) - sa) + (1 : Int32))), (.int (p3 &&& (2147483647 : Int32))), (.int sa)])) _
      refine iremM X160 hx rfl (hb hby at_146) rfl (own_nz _ _ (by decide) hsa).2 ?_
      show Steps p.tables e below (T160.setTop (mkF m 147 #[.val (.int p1), .val (.int p2), .val (.int p3), .val (.int p4), .val (.int p5), .val (.int p6), .val (.int (2 : Int32)), .val (.ref b2), .val (.ref b30), .val (.int sa), .unset, .unset, .unset] [(.int ((p3 &&& (2147483647 : Int32)) % (((2 : Int32) - sa) + (1 : Int32)))), (.int sa)])) _
      refine XS.iadd X160.here hx rfl (hb hby at_147) rfl ?_
      show Steps p.tables e below (T160.setTop (mkF m 148 #[.val (.int p1), .val (.int p2), .val (.int p3), .val (.int p4), .val (.int p5), .val (.int p6), .val (.int (2 : Int32)), .val (.ref b2), .val (.ref b30), .val (.int sa), .unset, .unset, .unset] [(.int (sa + ((p3 &&& (2147483647 : Int32)) % (((2 : Int32) - sa) + (1 : Int32)))))])) _
      exact k
    obtain ⟨ea, h_ea⟩ : ∃ z_ : Int32, z_ = (sa + ((p3 &&& (2147483647 : Int32)) % (((2 : Int32) - sa) + (1 : Int32)))) := ⟨_, rfl⟩
    have K173 : ∀ t, Steps p.tables e below (T160.setTop (mkF m 148 #[.val (.int p1), .val (.int p2), .val (.int p3), .val (.int p4), .val (.int p5), .val (.int p6), .val (.int (2 : Int32)), .val (.ref b2), .val (.ref b30), .val (.int sa), .unset, .unset, .unset] [(.int ea)])) t → Steps p.tables e below G t := by rw [h_ea]; exact K172
    have hea := own_en p3 (2 : Int32) sa ea (by decide) hsa h_ea
    have hB : own_B (2 : Int32) sa ea := ⟨hsa.1, hea.1, hea.2, by decide⟩
    have K174 : ∀ t, Steps p.tables e below (T160.setTop (mkF m 156 #[.val (.int p1), .val (.int p2), .val (.int p3), .val (.int p4), .val (.int p5), .val (.int p6), .val (.int (2 : Int32)), .val (.ref b2), .val (.ref b30), .val (.int sa), .val (.int ea), .unset, .unset] [(.int ea), (.int sa), (.ref b30)])) t → Steps p.tables e below G t := by
      intro t k
      refine K173 t ?_
      show Steps p.tables e below (T160.setTop (mkF m 148 #[.val (.int p1), .val (.int p2), .val (.int p3), .val (.int p4), .val (.int p5), .val (.int p6), .val (.int (2 : Int32)), .val (.ref b2), .val (.ref b30), .val (.int sa), .unset, .unset, .unset] [(.int ea)])) _
      refine XS.istore X160.here hx rfl (hb hby at_148) rfl (l' := #[.val (.int p1), .val (.int p2), .val (.int p3), .val (.int p4), .val (.int p5), .val (.int p6), .val (.int (2 : Int32)), .val (.ref b2), .val (.ref b30), .val (.int sa), .val (.int ea), .unset, .unset]) rfl ?_
      show Steps p.tables e below (T160.setTop (mkF m 150 #[.val (.int p1), .val (.int p2), .val (.int p3), .val (.int p4), .val (.int p5), .val (.int p6), .val (.int (2 : Int32)), .val (.ref b2), .val (.ref b30), .val (.int sa), .val (.int ea), .unset, .unset] [])) _
      refine XS.aload X160.here hx rfl (hb hby at_150) rfl rfl ?_
      show Steps p.tables e below (T160.setTop (mkF m 152 #[.val (.int p1), .val (.int p2), .val (.int p3), .val (.int p4), .val (.int p5), .val (.int p6), .val (.int (2 : Int32)), .val (.ref b2), .val (.ref b30), .val (.int sa), .val (.int ea), .unset, .unset] [(.ref b30)])) _
      refine XS.iload X160.here hx rfl (hb hby at_152) rfl ?_
      show Steps p.tables e below (T160.setTop (mkF m 154 #[.val (.int p1), .val (.int p2), .val (.int p3), .val (.int p4), .val (.int p5), .val (.int p6), .val (.int (2 : Int32)), .val (.ref b2), .val (.ref b30), .val (.int sa), .val (.int ea), .unset, .unset] [(.int sa), (.ref b30)])) _
      refine XS.iload X160.here hx rfl (hb hby at_154) rfl ?_
      show Steps p.tables e below (T160.setTop (mkF m 156 #[.val (.int p1), .val (.int p2), .val (.int p3), .val (.int p4), .val (.int p5), .val (.int p6), .val (.int (2 : Int32)), .val (.ref b2), .val (.ref b30), .val (.int sa), .val (.int ea), .unset, .unset] [(.int ea), (.int sa), (.ref b30)])) _
      exact k
    obtain ⟨cq175, kq175, q175a, q175b, q175c⟩ := isOf hZ rfl E160'
    obtain ⟨_, _, ⟨T175, L175, kk175, nn175⟩, -, X175, ⟨Lc175, hQ175, lq175, yq175, zq175⟩, st175⟩ := X160.virtualBack hx (y := (⟨"org/arborlog/pattern/LineText", "delete", "(II)V"⟩ : MethodName)) (z := (⟨"org/arborlog/pattern/LineText", "delete", "(II)V"⟩ : MethodName)) hown (mvT hZ (hw _ (List.mem_of_getElem? (i := 13) rfl))) (mvT hZ (hw _ (List.mem_of_getElem? (i := 14) rfl))) (notFace_of_selects (args := #[]) (mvT hZ (hw _ (List.mem_of_getElem? (i := 16) rfl)))) (mvT hZ (hw _ (List.mem_of_getElem? (i := 16) rfl))) (mvT hZ (hw _ (List.mem_of_getElem? (i := 15) rfl))) (by decide) (backOf (W := 0) (rm3 l Z a0 hw [] b30 sa ea b160 kb160 zb160 (2 : Int32) vs160 T160.heap n0 Z164 E160' Fc160 f166 Vb160 ne_b30_b160 g_b30 gb160 hB hz160.1) hZ (hw _ (List.mem_of_getElem? (i := 17) rfl)) (hw _ (List.mem_of_getElem? (i := 4) rfl)) (by decide) (by decide)) q175a q175c (g := (mkF m 156 #[.val (.int p1), .val (.int p2), .val (.int p3), .val (.int p4), .val (.int p5), .val (.int p6), .val (.int (2 : Int32)), .val (.ref b2), .val (.ref b30), .val (.int sa), .val (.int ea), .unset, .unset] [(.int ea), (.int sa), (.ref b30)])) rfl (by rw [hml]; rfl) (Steps.refl _) (argsL := [(.int sa), (.int ea)]) (rest := []) (lenOf pd_4 rfl) rfl (by show 2 * 0 + _ ≤ _; exact Nat.le_of_eq rfl) (hb hby at_156) (fun _ _ => ⟨rfl, rfl, (by decide : 5 + 0 ≤ _), (by decide : 34 + 0 ≤ _)⟩)
    dsimp only [Pt.U, Pt.locs, Pt.cells, Pt.slots] at X175 lq175 yq175 zq175 st175 hQ175
    subst lq175 yq175 zq175
    obtain ⟨vs175, rfl, Nq175, K175, E175', Fc175, Fl175, Vb175, hA175, hB175⟩ := hQ175
    have N176 := Fr.app N161 Nq175
    have f177 := f162.keep K175 (ninS ne_b2_b30 (ninS ne_b2_b160 nin0))
    have f178 := E160'.keep K175
    have Z179 : n0 ≤ T175.heap.size := Nat.le_trans Z164 K175.1
    have KP180 : Keep h0 T175.heap [] := KP165.trans K175 (allS (Or.inr sz_b30) (allS (Or.inr sz160) all0))
    have K181 : ∀ t, Steps p.tables e below (T175.setTop (mkF m 159 #[.val (.int p1), .val (.int p2), .val (.int p3), .val (.int p4), .val (.int p5), .val (.int p6), .val (.int (2 : Int32)), .val (.ref b2), .val (.ref b30), .val (.int sa), .val (.int ea), .unset, .unset] [])) t → Steps p.tables e below G t := fun t k => K174 t (st175.trans k)
    have K182 : ∀ t, Steps p.tables e below (T175.setTop (mkF m 167 #[.val (.int p1), .val (.int p2), .val (.int p3), .val (.int p4), .val (.int p5), .val (.int p6), .val (.int (2 : Int32)), .val (.ref b2), .val (.ref b30), .val (.int sa), .val (.int ea), .unset, .unset] [(.int ((2 : Int32) - (ea - sa)))])) t → Steps p.tables e below G t := by
      intro t k
      refine K181 t ?_
      show Steps p.tables e below (T175.setTop (mkF m 159 #[.val (.int p1), .val (.int p2), .val (.int p3), .val (.int p4), .val (.int p5), .val (.int p6), .val (.int (2 : Int32)), .val (.ref b2), .val (.ref b30), .val (.int sa), .val (.int ea), .unset, .unset] [])) _
      refine XS.iload X175.here hx rfl (hb hby at_159) rfl ?_
      show Steps p.tables e below (T175.setTop (mkF m 161 #[.val (.int p1), .val (.int p2), .val (.int p3), .val (.int p4), .val (.int p5), .val (.int p6), .val (.int (2 : Int32)), .val (.ref b2), .val (.ref b30), .val (.int sa), .val (.int ea), .unset, .unset] [(.int (2 : Int32))])) _
      refine XS.iload X175.here hx rfl (hb hby at_161) rfl ?_
      show Steps p.tables e below (T175.setTop (mkF m 163 #[.val (.int p1), .val (.int p2), .val (.int p3), .val (.int p4), .val (.int p5), .val (.int p6), .val (.int (2 : Int32)), .val (.ref b2), .val (.ref b30), .val (.int sa), .val (.int ea), .unset, .unset] [(.int ea), (.int (2 : Int32))])) _
      refine XS.iload X175.here hx rfl (hb hby at_163) rfl ?_
      show Steps p.tables e below (T175.setTop (mkF m 165 #[.val (.int p1), .val (.int p2), .val (.int p3), .val (.int p4), .val (.int p5), .val (.int p6), .val (.int (2 : Int32)), .val (.ref b2), .val (.ref b30), .val (.int sa), .val (.int ea), .unset, .unset] [(.int sa), (.int ea), (.int (2 : Int32))])) _
      refine XS.isub X175.here hx rfl (hb hby at_165) rfl ?_
      show Steps p.tables e below (T175.setTop (mkF m 166 #[.val (.int p1), .val (.int p2), .val (.int p3), .val (.int p4), .val (.int p5), .val (.int p6), .val (.int (2 : Int32)), .val (.ref b2), .val (.ref b30), .val (.int sa), .val (.int ea), .unset, .unset] [(.int (ea - sa)), (.int (2 : Int32))])) _
      refine XS.isub X175.here hx rfl (hb hby at_166) rfl ?_
      show Steps p.tables e below (T175.setTop (mkF m 167 #[.val (.int p1), .val (.int p2), .val (.int p3), .val (.int p4), .val (.int p5), .val (.int p6), .val (.int (2 : Int32)), .val (.ref b2), .val (.ref b30), .val (.int sa), .val (.int ea), .unset, .unset] [(.int ((2 : Int32) - (ea - sa)))])) _
      exact k
    obtain ⟨nl, h_nl⟩ : ∃ z_ : Int32, z_ = ((2 : Int32) - (ea - sa)) := ⟨_, rfl⟩
    have K183 : ∀ t, Steps p.tables e below (T175.setTop (mkF m 167 #[.val (.int p1), .val (.int p2), .val (.int p3), .val (.int p4), .val (.int p5), .val (.int p6), .val (.int (2 : Int32)), .val (.ref b2), .val (.ref b30), .val (.int sa), .val (.int ea), .unset, .unset] [(.int nl)])) t → Steps p.tables e below G t := by rw [h_nl]; exact K182
    have K184 : ∀ t, Steps p.tables e below (T175.setTop (mkF m 171 #[.val (.int p1), .val (.int p2), .val (.int p3), .val (.int p4), .val (.int p5), .val (.int p6), .val (.int (2 : Int32)), .val (.ref b2), .val (.ref b30), .val (.int sa), .val (.int ea), .val (.int nl), .unset] [(.ref b30)])) t → Steps p.tables e below G t := by
      intro t k
      refine K183 t ?_
      show Steps p.tables e below (T175.setTop (mkF m 167 #[.val (.int p1), .val (.int p2), .val (.int p3), .val (.int p4), .val (.int p5), .val (.int p6), .val (.int (2 : Int32)), .val (.ref b2), .val (.ref b30), .val (.int sa), .val (.int ea), .unset, .unset] [(.int nl)])) _
      refine XS.istore X175.here hx rfl (hb hby at_167) rfl (l' := #[.val (.int p1), .val (.int p2), .val (.int p3), .val (.int p4), .val (.int p5), .val (.int p6), .val (.int (2 : Int32)), .val (.ref b2), .val (.ref b30), .val (.int sa), .val (.int ea), .val (.int nl), .unset]) rfl ?_
      show Steps p.tables e below (T175.setTop (mkF m 169 #[.val (.int p1), .val (.int p2), .val (.int p3), .val (.int p4), .val (.int p5), .val (.int p6), .val (.int (2 : Int32)), .val (.ref b2), .val (.ref b30), .val (.int sa), .val (.int ea), .val (.int nl), .unset] [])) _
      refine XS.aload X175.here hx rfl (hb hby at_169) rfl rfl ?_
      show Steps p.tables e below (T175.setTop (mkF m 171 #[.val (.int p1), .val (.int p2), .val (.int p3), .val (.int p4), .val (.int p5), .val (.int p6), .val (.int (2 : Int32)), .val (.ref b2), .val (.ref b30), .val (.int sa), .val (.int ea), .val (.int nl), .unset] [(.ref b30)])) _
      exact k
    obtain ⟨cq185, kq185, q185a, q185b, q185c⟩ := isOf hZ rfl E175'
    obtain ⟨_, _, ⟨T185, L185, kk185, nn185⟩, -, X185, ⟨Lc185, hQ185, lq185, yq185, zq185⟩, st185⟩ := X175.virtualBack hx (y := (⟨"org/arborlog/pattern/LineText", "length", "()I"⟩ : MethodName)) (z := (⟨"org/arborlog/pattern/LineText", "length", "()I"⟩ : MethodName)) hown (mvT hZ (hw _ (List.mem_of_getElem? (i := 24) rfl))) (mvT hZ (hw _ (List.mem_of_getElem? (i := 25) rfl))) (notFace_of_selects (args := #[]) (mvT hZ (hw _ (List.mem_of_getElem? (i := 27) rfl)))) (mvT hZ (hw _ (List.mem_of_getElem? (i := 27) rfl))) (mvT hZ (hw _ (List.mem_of_getElem? (i := 26) rfl))) (by decide) (backOf (W := 0) (rm4 l Z a0 hw [] b30 ((2 : Int32) - (ea - sa)) T175.heap n0 Z179 Fl175) hZ (hw _ (List.mem_of_getElem? (i := 28) rfl)) (hw _ (List.mem_of_getElem? (i := 4) rfl)) (by decide) (by decide)) q185a q185c (g := (mkF m 171 #[.val (.int p1), .val (.int p2), .val (.int p3), .val (.int p4), .val (.int p5), .val (.int p6), .val (.int (2 : Int32)), .val (.ref b2), .val (.ref b30), .val (.int sa), .val (.int ea), .val (.int nl), .unset] [(.ref b30)])) rfl (by rw [hml]; rfl) (Steps.refl _) (argsL := []) (rest := []) (lenOf pd_5 rfl) rfl (by show 2 * 0 + _ ≤ _; exact Nat.le_of_eq rfl) (hb hby at_171) (fun _ _ => ⟨rfl, rfl, (by decide : 5 + 0 ≤ _), (by decide : 34 + 0 ≤ _)⟩)
    dsimp only [Pt.U, Pt.locs, Pt.cells, Pt.slots] at X185 lq185 yq185 zq185 st185 hQ185
    subst lq185 yq185 zq185
    obtain ⟨rfl, Nq185, e185⟩ := hQ185
    have N186 := Fr.app N176 Nq185
    have K187 : ∀ t, Steps p.tables e below (T185.setTop (mkF m 174 #[.val (.int p1), .val (.int p2), .val (.int p3), .val (.int p4), .val (.int p5), .val (.int p6), .val (.int (2 : Int32)), .val (.ref b2), .val (.ref b30), .val (.int sa), .val (.int ea), .val (.int nl), .unset] [(.int ((2 : Int32) - (ea - sa)))])) t → Steps p.tables e below G t := fun t k => K184 t (st185.trans k)
    have K188 : ∀ t, Steps p.tables e below (T185.setTop (mkF m 183 #[.val (.int p1), .val (.int p2), .val (.int p3), .val (.int p4), .val (.int p5), .val (.int p6), .val (.int (2 : Int32)), .val (.ref b2), .val (.ref b30), .val (.int sa), .val (.int ea), .val (.int nl), .unset] [(.ref b30)])) t → Steps p.tables e below G t := by
      intro t k
      refine K187 t ?_
      show Steps p.tables e below (T185.setTop (mkF m 174 #[.val (.int p1), .val (.int p2), .val (.int p3), .val (.int p4), .val (.int p5), .val (.int p6), .val (.int (2 : Int32)), .val (.ref b2), .val (.ref b30), .val (.int sa), .val (.int ea), .val (.int nl), .unset] [(.int ((2 : Int32) - (ea - sa)))])) _
      refine XS.iload X185.here hx rfl (hb hby at_174) rfl ?_
      show Steps p.tables e below (T185.setTop (mkF m 176 #[.val (.int p1), .val (.int p2), .val (.int p3), .val (.int p4), .val (.int p5), .val (.int p6), .val (.int (2 : Int32)), .val (.ref b2), .val (.ref b30), .val (.int sa), .val (.int ea), .val (.int nl), .unset] [(.int nl), (.int ((2 : Int32) - (ea - sa)))])) _
      refine XS.icmpYes X185.here hx rfl (pc0 := 176) (pc' := 181) rfl (hb hby at_176) rfl (teq h_nl.symm).1 (by decide) (by decide) ?_
      show Steps p.tables e below (T185.setTop (mkF m 181 #[.val (.int p1), .val (.int p2), .val (.int p3), .val (.int p4), .val (.int p5), .val (.int p6), .val (.int (2 : Int32)), .val (.ref b2), .val (.ref b30), .val (.int sa), .val (.int ea), .val (.int nl), .unset] [])) _
      refine XS.aload X185.here hx rfl (hb hby at_181) rfl rfl ?_
      show Steps p.tables e below (T185.setTop (mkF m 183 #[.val (.int p1), .val (.int p2), .val (.int p3), .val (.int p4), .val (.int p5), .val (.int p6), .val (.int (2 : Int32)), .val (.ref b2), .val (.ref b30), .val (.int sa), .val (.int ea), .val (.int nl), .unset] [(.ref b30)])) _
      exact k
    obtain ⟨cq189, kq189, q189a, q189b, q189c⟩ := isOf hZ e185 E175'
    obtain ⟨_, _, ⟨T189, L189, kk189, nn189⟩, -, X189, ⟨Lc189, hQ189, lq189, yq189, zq189⟩, st189⟩ := X185.virtualBack hx (y := (⟨"org/arborlog/pattern/LineText", "chars", "()[C"⟩ : MethodName)) (z := (⟨"org/arborlog/pattern/LineText", "chars", "()[C"⟩ : MethodName)) hown (mvT hZ (hw _ (List.mem_of_getElem? (i := 29) rfl))) (mvT hZ (hw _ (List.mem_of_getElem? (i := 30) rfl))) (notFace_of_selects (args := #[]) (mvT hZ (hw _ (List.mem_of_getElem? (i := 32) rfl)))) (mvT hZ (hw _ (List.mem_of_getElem? (i := 32) rfl))) (mvT hZ (hw _ (List.mem_of_getElem? (i := 31) rfl))) (by decide) (backOf (W := 0) (rm5 l Z a0 hw [] b30 b160 T175.heap n0 Z179 Fc175) hZ (hw _ (List.mem_of_getElem? (i := 33) rfl)) (hw _ (List.mem_of_getElem? (i := 4) rfl)) (by decide) (by decide)) q189a q189c (g := (mkF m 183 #[.val (.int p1), .val (.int p2), .val (.int p3), .val (.int p4), .val (.int p5), .val (.int p6), .val (.int (2 : Int32)), .val (.ref b2), .val (.ref b30), .val (.int sa), .val (.int ea), .val (.int nl), .unset] [(.ref b30)])) rfl (by rw [hml]; rfl) (Steps.refl _) (argsL := []) (rest := []) (lenOf pd_6 rfl) rfl (by show 2 * 0 + _ ≤ _; exact Nat.le_of_eq rfl) (hb hby at_183) (fun _ _ => ⟨rfl, e185, (by decide : 5 + 0 ≤ _), (by decide : 34 + 0 ≤ _)⟩)
    dsimp only [Pt.U, Pt.locs, Pt.cells, Pt.slots] at X189 lq189 yq189 zq189 st189 hQ189
    subst lq189 yq189 zq189
    obtain ⟨rfl, Nq189, e189⟩ := hQ189
    have N190 := Fr.app N186 Nq189
    have K191 : ∀ t, Steps p.tables e below (T189.setTop (mkF m 186 #[.val (.int p1), .val (.int p2), .val (.int p3), .val (.int p4), .val (.int p5), .val (.int p6), .val (.int (2 : Int32)), .val (.ref b2), .val (.ref b30), .val (.int sa), .val (.int ea), .val (.int nl), .unset] [(.ref b160)])) t → Steps p.tables e below G t := fun t k => K188 t (st189.trans k)
    have K192 : ∀ t, Steps p.tables e below (T189.setTop (mkF m 190 #[.val (.int p1), .val (.int p2), .val (.int p3), .val (.int p4), .val (.int p5), .val (.int p6), .val (.int (2 : Int32)), .val (.ref b2), .val (.ref b30), .val (.int sa), .val (.int ea), .val (.int nl), .val (.ref b160)] [(.ref b160)])) t → Steps p.tables e below G t := by
      intro t k
      refine K191 t ?_
      show Steps p.tables e below (T189.setTop (mkF m 186 #[.val (.int p1), .val (.int p2), .val (.int p3), .val (.int p4), .val (.int p5), .val (.int p6), .val (.int (2 : Int32)), .val (.ref b2), .val (.ref b30), .val (.int sa), .val (.int ea), .val (.int nl), .unset] [(.ref b160)])) _
      refine XS.astore X189.here hx rfl (hb hby at_186) rfl rfl (l' := #[.val (.int p1), .val (.int p2), .val (.int p3), .val (.int p4), .val (.int p5), .val (.int p6), .val (.int (2 : Int32)), .val (.ref b2), .val (.ref b30), .val (.int sa), .val (.int ea), .val (.int nl), .val (.ref b160)]) rfl ?_
      show Steps p.tables e below (T189.setTop (mkF m 188 #[.val (.int p1), .val (.int p2), .val (.int p3), .val (.int p4), .val (.int p5), .val (.int p6), .val (.int (2 : Int32)), .val (.ref b2), .val (.ref b30), .val (.int sa), .val (.int ea), .val (.int nl), .val (.ref b160)] [])) _
      refine XS.aload X189.here hx rfl (hb hby at_188) rfl rfl ?_
      show Steps p.tables e below (T189.setTop (mkF m 190 #[.val (.int p1), .val (.int p2), .val (.int p3), .val (.int p4), .val (.int p5), .val (.int p6), .val (.int (2 : Int32)), .val (.ref b2), .val (.ref b30), .val (.int sa), .val (.int ea), .val (.int nl), .val (.ref b160)] [(.ref b160)])) _
      exact k
    obtain ⟨cl193, Ar193, -, S193, M193, -, -⟩ := id Vb175
    have K194 : ∀ t, Steps p.tables e below (T189.setTop (mkF m 191 #[.val (.int p1), .val (.int p2), .val (.int p3), .val (.int p4), .val (.int p5), .val (.int p6), .val (.int (2 : Int32)), .val (.ref b2), .val (.ref b30), .val (.int sa), .val (.int ea), .val (.int nl), .val (.ref b160)] [(.int zb160)])) t → Steps p.tables e below G t := by
      intro t k
      refine K192 t ?_
      refine X189.arraylength hx (by rw [e189]; exact Ar193.1) (State.isArrayOf_alike hZ.alike Ar193.2.1) (g := (mkF m 190 #[.val (.int p1), .val (.int p2), .val (.int p3), .val (.int p4), .val (.int p5), .val (.int p6), .val (.int (2 : Int32)), .val (.ref b2), .val (.ref b30), .val (.int sa), .val (.int ea), .val (.int nl), .val (.ref b160)] [(.ref b160)])) rfl rfl (hb hby at_190) _ ?_
      rw [len_of S193 M193]
      exact k
    have K195 : ∀ t, Steps p.tables e below (T189.setTop (mkF m 198 #[.val (.int p1), .val (.int p2), .val (.int p3), .val (.int p4), .val (.int p5), .val (.int p6), .val (.int (2 : Int32)), .val (.ref b2), .val (.ref b30), .val (.int sa), .val (.int ea), .val (.int nl), .val (.ref b160)] [])) t → Steps p.tables e below G t := by
      intro t k
      refine K194 t ?_
      show Steps p.tables e below (T189.setTop (mkF m 191 #[.val (.int p1), .val (.int p2), .val (.int p3), .val (.int p4), .val (.int p5), .val (.int p6), .val (.int (2 : Int32)), .val (.ref b2), .val (.ref b30), .val (.int sa), .val (.int ea), .val (.int nl), .val (.ref b160)] [(.int zb160)])) _
      refine XS.iload X189.here hx rfl (hb hby at_191) rfl ?_
      show Steps p.tables e below (T189.setTop (mkF m 193 #[.val (.int p1), .val (.int p2), .val (.int p3), .val (.int p4), .val (.int p5), .val (.int p6), .val (.int (2 : Int32)), .val (.ref b2), .val (.ref b30), .val (.int sa), .val (.int ea), .val (.int nl), .val (.ref b160)] [(.int nl), (.int zb160)])) _
      refine XS.icmpYes X189.here hx rfl (pc0 := 193) (pc' := 198) rfl (hb hby at_193) rfl (flt (own_zl hB hz160.1 h_nl)).2.1 (by decide) (by decide) ?_
      show Steps p.tables e below (T189.setTop (mkF m 198 #[.val (.int p1), .val (.int p2), .val (.int p3), .val (.int p4), .val (.int p5), .val (.int p6), .val (.int (2 : Int32)), .val (.ref b2), .val (.ref b30), .val (.int sa), .val (.int ea), .val (.int nl), .val (.ref b160)] [])) _
      exact k
    have hf : ∀ j : Nat, j < (2 : Int32).toNatClampNeg → vs160.getD j (Value.int (0 : Int32)) = .int (nar .char (([(nar .char (p4.toUInt32.toUInt16.toUInt32.toInt32)), (nar .char (((p4.toUInt32 >>> ((16 : Int32) &&& 31).toUInt32).toInt32).toUInt32.toUInt16.toUInt32.toInt32)), (nar .char (p5.toUInt32.toUInt16.toUInt32.toInt32)), (nar .char (((p5.toUInt32 >>> ((16 : Int32) &&& 31).toUInt32).toInt32).toUInt32.toUInt16.toUInt32.toInt32))] : List Int32).getD j 0)) ∧ [(.int (nar .char (p4.toUInt32.toUInt16.toUInt32.toInt32))), (.int (nar .char (((p4.toUInt32 >>> ((16 : Int32) &&& 31).toUInt32).toInt32).toUInt32.toUInt16.toUInt32.toInt32))), (.int (nar .char (p5.toUInt32.toUInt16.toUInt32.toInt32))), (.int (nar .char (((p5.toUInt32 >>> ((16 : Int32) &&& 31).toUInt32).toInt32).toUInt32.toUInt16.toUInt32.toInt32)))].getD j (Value.int (0 : Int32)) = .int (([(nar .char (p4.toUInt32.toUInt16.toUInt32.toInt32)), (nar .char (((p4.toUInt32 >>> ((16 : Int32) &&& 31).toUInt32).toInt32).toUInt32.toUInt16.toUInt32.toInt32)), (nar .char (p5.toUInt32.toUInt16.toUInt32.toInt32)), (nar .char (((p5.toUInt32 >>> ((16 : Int32) &&& 31).toUInt32).toInt32).toUInt32.toUInt16.toUInt32.toInt32))] : List Int32).getD j 0) := fun j hj => by
      have hj' : j < 2 := hj
      match j, hj' with
      | 0, _ => exact ⟨ct167, rfl⟩
      | 1, _ => exact ⟨ct168, rfl⟩
      | j + 2, h => exact absurd h (by omega)
    have K196 : ∀ t, Steps p.tables e below (T189.setTop (mkF m 209 #[.val (.int p1), .val (.int p2), .val (.int p3), .val (.int p4), .val (.int p5), .val (.int p6), .val (.int (2 : Int32)), .val (.ref b2), .val (.ref b30), .val (.int sa), .val (.int ea), .val (.int nl), .val (.ref b160)] [(.int ea), (.int sa), (.int nl), (.int (0 : Int32)), (.ref b2), (.ref b160)])) t → Steps p.tables e below G t := by
      intro t k
      refine K195 t ?_
      show Steps p.tables e below (T189.setTop (mkF m 198 #[.val (.int p1), .val (.int p2), .val (.int p3), .val (.int p4), .val (.int p5), .val (.int p6), .val (.int (2 : Int32)), .val (.ref b2), .val (.ref b30), .val (.int sa), .val (.int ea), .val (.int nl), .val (.ref b160)] [])) _
      refine XS.aload X189.here hx rfl (hb hby at_198) rfl rfl ?_
      show Steps p.tables e below (T189.setTop (mkF m 200 #[.val (.int p1), .val (.int p2), .val (.int p3), .val (.int p4), .val (.int p5), .val (.int p6), .val (.int (2 : Int32)), .val (.ref b2), .val (.ref b30), .val (.int sa), .val (.int ea), .val (.int nl), .val (.ref b160)] [(.ref b160)])) _
      refine XS.aload X189.here hx rfl (hb hby at_200) rfl rfl ?_
      show Steps p.tables e below (T189.setTop (mkF m 202 #[.val (.int p1), .val (.int p2), .val (.int p3), .val (.int p4), .val (.int p5), .val (.int p6), .val (.int (2 : Int32)), .val (.ref b2), .val (.ref b30), .val (.int sa), .val (.int ea), .val (.int nl), .val (.ref b160)] [(.ref b2), (.ref b160)])) _
      refine XS.iconst X189.here hx rfl (hb hby at_202) ?_
      show Steps p.tables e below (T189.setTop (mkF m 203 #[.val (.int p1), .val (.int p2), .val (.int p3), .val (.int p4), .val (.int p5), .val (.int p6), .val (.int (2 : Int32)), .val (.ref b2), .val (.ref b30), .val (.int sa), .val (.int ea), .val (.int nl), .val (.ref b160)] [(.int (0 : Int32)), (.ref b2), (.ref b160)])) _
      refine XS.iload X189.here hx rfl (hb hby at_203) rfl ?_
      show Steps p.tables e below (T189.setTop (mkF m 205 #[.val (.int p1), .val (.int p2), .val (.int p3), .val (.int p4), .val (.int p5), .val (.int p6), .val (.int (2 : Int32)), .val (.ref b2), .val (.ref b30), .val (.int sa), .val (.int ea), .val (.int nl), .val (.ref b160)] [(.int nl), (.int (0 : Int32)), (.ref b2), (.ref b160)])) _
      refine XS.iload X189.here hx rfl (hb hby at_205) rfl ?_
      show Steps p.tables e below (T189.setTop (mkF m 207 #[.val (.int p1), .val (.int p2), .val (.int p3), .val (.int p4), .val (.int p5), .val (.int p6), .val (.int (2 : Int32)), .val (.ref b2), .val (.ref b30), .val (.int sa), .val (.int ea), .val (.int nl), .val (.ref b160)] [(.int sa), (.int nl), (.int (0 : Int32)), (.ref b2), (.ref b160)])) _
      refine XS.iload X189.here hx rfl (hb hby at_207) rfl ?_
      show Steps p.tables e below (T189.setTop (mkF m 209 #[.val (.int p1), .val (.int p2), .val (.int p3), .val (.int p4), .val (.int p5), .val (.int p6), .val (.int (2 : Int32)), .val (.ref b2), .val (.ref b30), .val (.int sa), .val (.int ea), .val (.int nl), .val (.ref b160)] [(.int ea), (.int sa), (.int nl), (.int (0 : Int32)), (.ref b2), (.ref b160)])) _
      exact k
    obtain ⟨_, _, ⟨T197, L197, kk197, nn197⟩, -, X197, ⟨Lc197, hQ197, lq197, yq197, zq197⟩, st197⟩ := Jvm.LawKit.callS X189 hx (y := (⟨"org/arborlog/pattern/LineTextDeletePinLaw", "slotOk", "([C[CIIII)Z"⟩ : MethodName)) hown (mvT hZ (hw _ (List.mem_of_getElem? (i := 34) rfl))) (mvT hZ (hw _ (List.mem_of_getElem? (i := 35) rfl))) (mvT hZ (hw _ (List.mem_of_getElem? (i := 36) rfl))) (mvT hZ (hw _ (List.mem_of_getElem? (i := 37) rfl))) (by decide) (backOf (W := 0) (rm6 l Z a0 hw [] b160 b2 (0 : Int32) nl sa ea kb160 kn2 zb160 vs175 [(.int (nar .char (p4.toUInt32.toUInt16.toUInt32.toInt32))), (.int (nar .char (((p4.toUInt32 >>> ((16 : Int32) &&& 31).toUInt32).toInt32).toUInt32.toUInt16.toUInt32.toInt32))), (.int (nar .char (p5.toUInt32.toUInt16.toUInt32.toInt32))), (.int (nar .char (((p5.toUInt32 >>> ((16 : Int32) &&& 31).toUInt32).toInt32).toUInt32.toUInt16.toUInt32.toInt32)))] T175.heap n0 Z179 Vb175 f177 (own_slot 0 rfl (by decide) hB hz160.1 h_nl hA175 hB175 hf)) hZ (hw _ (List.mem_of_getElem? (i := 37) rfl)) (hw _ (List.mem_of_getElem? (i := 36) rfl)) (by decide) (by decide)) (g := (mkF m 209 #[.val (.int p1), .val (.int p2), .val (.int p3), .val (.int p4), .val (.int p5), .val (.int p6), .val (.int (2 : Int32)), .val (.ref b2), .val (.ref b30), .val (.int sa), .val (.int ea), .val (.int nl), .val (.ref b160)] [(.int ea), (.int sa), (.int nl), (.int (0 : Int32)), (.ref b2), (.ref b160)])) rfl (by rw [hml]; rfl) (argsL := [(.ref b160), (.ref b2), (.int (0 : Int32)), (.int nl), (.int sa), (.int ea)]) (rest := []) (lenOf pd_7 rfl) rfl (by show 2 * 0 + _ ≤ _; exact Nat.le_of_eq rfl) (hb hby at_209) (fun _ _ => ⟨rfl, e189, (by decide : 5 + 0 ≤ _), (by decide : 34 + 0 ≤ _)⟩)
    dsimp only [Pt.U, Pt.locs, Pt.cells, Pt.slots] at X197 lq197 yq197 zq197 st197 hQ197
    subst lq197 yq197 zq197
    obtain ⟨rfl, Nq197, e197⟩ := hQ197
    have N198 := Fr.app N190 Nq197
    have K199 : ∀ t, Steps p.tables e below (T197.setTop (mkF m 212 #[.val (.int p1), .val (.int p2), .val (.int p3), .val (.int p4), .val (.int p5), .val (.int p6), .val (.int (2 : Int32)), .val (.ref b2), .val (.ref b30), .val (.int sa), .val (.int ea), .val (.int nl), .val (.ref b160)] [(.int (1 : Int32))])) t → Steps p.tables e below G t := fun t k => K196 t (st197 _ k)
    have K200 : ∀ t, Steps p.tables e below (T197.setTop (mkF m 226 #[.val (.int p1), .val (.int p2), .val (.int p3), .val (.int p4), .val (.int p5), .val (.int p6), .val (.int (2 : Int32)), .val (.ref b2), .val (.ref b30), .val (.int sa), .val (.int ea), .val (.int nl), .val (.ref b160)] [(.int ea), (.int sa), (.int nl), (.int (1 : Int32)), (.ref b2), (.ref b160)])) t → Steps p.tables e below G t := by
      intro t k
      refine K199 t ?_
      show Steps p.tables e below (T197.setTop (mkF m 212 #[.val (.int p1), .val (.int p2), .val (.int p3), .val (.int p4), .val (.int p5), .val (.int p6), .val (.int (2 : Int32)), .val (.ref b2), .val (.ref b30), .val (.int sa), .val (.int ea), .val (.int nl), .val (.ref b160)] [(.int (1 : Int32))])) _
      refine XS.ifNo X197.here hx rfl (hb hby at_212) rfl ((if0 _ _).trans (feq (by decide)).1) ?_
      show Steps p.tables e below (T197.setTop (mkF m 215 #[.val (.int p1), .val (.int p2), .val (.int p3), .val (.int p4), .val (.int p5), .val (.int p6), .val (.int (2 : Int32)), .val (.ref b2), .val (.ref b30), .val (.int sa), .val (.int ea), .val (.int nl), .val (.ref b160)] [])) _
      refine XS.aload X197.here hx rfl (hb hby at_215) rfl rfl ?_
      show Steps p.tables e below (T197.setTop (mkF m 217 #[.val (.int p1), .val (.int p2), .val (.int p3), .val (.int p4), .val (.int p5), .val (.int p6), .val (.int (2 : Int32)), .val (.ref b2), .val (.ref b30), .val (.int sa), .val (.int ea), .val (.int nl), .val (.ref b160)] [(.ref b160)])) _
      refine XS.aload X197.here hx rfl (hb hby at_217) rfl rfl ?_
      show Steps p.tables e below (T197.setTop (mkF m 219 #[.val (.int p1), .val (.int p2), .val (.int p3), .val (.int p4), .val (.int p5), .val (.int p6), .val (.int (2 : Int32)), .val (.ref b2), .val (.ref b30), .val (.int sa), .val (.int ea), .val (.int nl), .val (.ref b160)] [(.ref b2), (.ref b160)])) _
      refine XS.iconst X197.here hx rfl (hb hby at_219) ?_
      show Steps p.tables e below (T197.setTop (mkF m 220 #[.val (.int p1), .val (.int p2), .val (.int p3), .val (.int p4), .val (.int p5), .val (.int p6), .val (.int (2 : Int32)), .val (.ref b2), .val (.ref b30), .val (.int sa), .val (.int ea), .val (.int nl), .val (.ref b160)] [(.int (1 : Int32)), (.ref b2), (.ref b160)])) _
      refine XS.iload X197.here hx rfl (hb hby at_220) rfl ?_
      show Steps p.tables e below (T197.setTop (mkF m 222 #[.val (.int p1), .val (.int p2), .val (.int p3), .val (.int p4), .val (.int p5), .val (.int p6), .val (.int (2 : Int32)), .val (.ref b2), .val (.ref b30), .val (.int sa), .val (.int ea), .val (.int nl), .val (.ref b160)] [(.int nl), (.int (1 : Int32)), (.ref b2), (.ref b160)])) _
      refine XS.iload X197.here hx rfl (hb hby at_222) rfl ?_
      show Steps p.tables e below (T197.setTop (mkF m 224 #[.val (.int p1), .val (.int p2), .val (.int p3), .val (.int p4), .val (.int p5), .val (.int p6), .val (.int (2 : Int32)), .val (.ref b2), .val (.ref b30), .val (.int sa), .val (.int ea), .val (.int nl), .val (.ref b160)] [(.int sa), (.int nl), (.int (1 : Int32)), (.ref b2), (.ref b160)])) _
      refine XS.iload X197.here hx rfl (hb hby at_224) rfl ?_
      show Steps p.tables e below (T197.setTop (mkF m 226 #[.val (.int p1), .val (.int p2), .val (.int p3), .val (.int p4), .val (.int p5), .val (.int p6), .val (.int (2 : Int32)), .val (.ref b2), .val (.ref b30), .val (.int sa), .val (.int ea), .val (.int nl), .val (.ref b160)] [(.int ea), (.int sa), (.int nl), (.int (1 : Int32)), (.ref b2), (.ref b160)])) _
      exact k
    obtain ⟨_, _, ⟨T201, L201, kk201, nn201⟩, -, X201, ⟨Lc201, hQ201, lq201, yq201, zq201⟩, st201⟩ := Jvm.LawKit.callS X197 hx (y := (⟨"org/arborlog/pattern/LineTextDeletePinLaw", "slotOk", "([C[CIIII)Z"⟩ : MethodName)) hown (mvT hZ (hw _ (List.mem_of_getElem? (i := 34) rfl))) (mvT hZ (hw _ (List.mem_of_getElem? (i := 35) rfl))) (mvT hZ (hw _ (List.mem_of_getElem? (i := 36) rfl))) (mvT hZ (hw _ (List.mem_of_getElem? (i := 37) rfl))) (by decide) (backOf (W := 0) (rm6 l Z a0 hw [] b160 b2 (1 : Int32) nl sa ea kb160 kn2 zb160 vs175 [(.int (nar .char (p4.toUInt32.toUInt16.toUInt32.toInt32))), (.int (nar .char (((p4.toUInt32 >>> ((16 : Int32) &&& 31).toUInt32).toInt32).toUInt32.toUInt16.toUInt32.toInt32))), (.int (nar .char (p5.toUInt32.toUInt16.toUInt32.toInt32))), (.int (nar .char (((p5.toUInt32 >>> ((16 : Int32) &&& 31).toUInt32).toInt32).toUInt32.toUInt16.toUInt32.toInt32)))] T175.heap n0 Z179 Vb175 f177 (own_slot 1 rfl (by decide) hB hz160.1 h_nl hA175 hB175 hf)) hZ (hw _ (List.mem_of_getElem? (i := 37) rfl)) (hw _ (List.mem_of_getElem? (i := 36) rfl)) (by decide) (by decide)) (g := (mkF m 226 #[.val (.int p1), .val (.int p2), .val (.int p3), .val (.int p4), .val (.int p5), .val (.int p6), .val (.int (2 : Int32)), .val (.ref b2), .val (.ref b30), .val (.int sa), .val (.int ea), .val (.int nl), .val (.ref b160)] [(.int ea), (.int sa), (.int nl), (.int (1 : Int32)), (.ref b2), (.ref b160)])) rfl (by rw [hml]; rfl) (argsL := [(.ref b160), (.ref b2), (.int (1 : Int32)), (.int nl), (.int sa), (.int ea)]) (rest := []) (lenOf pd_7 rfl) rfl (by show 2 * 0 + _ ≤ _; exact Nat.le_of_eq rfl) (hb hby at_226) (fun _ _ => ⟨rfl, e197, (by decide : 5 + 0 ≤ _), (by decide : 34 + 0 ≤ _)⟩)
    dsimp only [Pt.U, Pt.locs, Pt.cells, Pt.slots] at X201 lq201 yq201 zq201 st201 hQ201
    subst lq201 yq201 zq201
    obtain ⟨rfl, Nq201, e201⟩ := hQ201
    have N202 := Fr.app N198 Nq201
    have K203 : ∀ t, Steps p.tables e below (T201.setTop (mkF m 229 #[.val (.int p1), .val (.int p2), .val (.int p3), .val (.int p4), .val (.int p5), .val (.int p6), .val (.int (2 : Int32)), .val (.ref b2), .val (.ref b30), .val (.int sa), .val (.int ea), .val (.int nl), .val (.ref b160)] [(.int (1 : Int32))])) t → Steps p.tables e below G t := fun t k => K200 t (st201 _ k)
    have K204 : ∀ t, Steps p.tables e below (T201.setTop (mkF m 243 #[.val (.int p1), .val (.int p2), .val (.int p3), .val (.int p4), .val (.int p5), .val (.int p6), .val (.int (2 : Int32)), .val (.ref b2), .val (.ref b30), .val (.int sa), .val (.int ea), .val (.int nl), .val (.ref b160)] [(.int ea), (.int sa), (.int nl), (.int (2 : Int32)), (.ref b2), (.ref b160)])) t → Steps p.tables e below G t := by
      intro t k
      refine K203 t ?_
      show Steps p.tables e below (T201.setTop (mkF m 229 #[.val (.int p1), .val (.int p2), .val (.int p3), .val (.int p4), .val (.int p5), .val (.int p6), .val (.int (2 : Int32)), .val (.ref b2), .val (.ref b30), .val (.int sa), .val (.int ea), .val (.int nl), .val (.ref b160)] [(.int (1 : Int32))])) _
      refine XS.ifNo X201.here hx rfl (hb hby at_229) rfl ((if0 _ _).trans (feq (by decide)).1) ?_
      show Steps p.tables e below (T201.setTop (mkF m 232 #[.val (.int p1), .val (.int p2), .val (.int p3), .val (.int p4), .val (.int p5), .val (.int p6), .val (.int (2 : Int32)), .val (.ref b2), .val (.ref b30), .val (.int sa), .val (.int ea), .val (.int nl), .val (.ref b160)] [])) _
      refine XS.aload X201.here hx rfl (hb hby at_232) rfl rfl ?_
      show Steps p.tables e below (T201.setTop (mkF m 234 #[.val (.int p1), .val (.int p2), .val (.int p3), .val (.int p4), .val (.int p5), .val (.int p6), .val (.int (2 : Int32)), .val (.ref b2), .val (.ref b30), .val (.int sa), .val (.int ea), .val (.int nl), .val (.ref b160)] [(.ref b160)])) _
      refine XS.aload X201.here hx rfl (hb hby at_234) rfl rfl ?_
      show Steps p.tables e below (T201.setTop (mkF m 236 #[.val (.int p1), .val (.int p2), .val (.int p3), .val (.int p4), .val (.int p5), .val (.int p6), .val (.int (2 : Int32)), .val (.ref b2), .val (.ref b30), .val (.int sa), .val (.int ea), .val (.int nl), .val (.ref b160)] [(.ref b2), (.ref b160)])) _
      refine XS.iconst X201.here hx rfl (hb hby at_236) ?_
      show Steps p.tables e below (T201.setTop (mkF m 237 #[.val (.int p1), .val (.int p2), .val (.int p3), .val (.int p4), .val (.int p5), .val (.int p6), .val (.int (2 : Int32)), .val (.ref b2), .val (.ref b30), .val (.int sa), .val (.int ea), .val (.int nl), .val (.ref b160)] [(.int (2 : Int32)), (.ref b2), (.ref b160)])) _
      refine XS.iload X201.here hx rfl (hb hby at_237) rfl ?_
      show Steps p.tables e below (T201.setTop (mkF m 239 #[.val (.int p1), .val (.int p2), .val (.int p3), .val (.int p4), .val (.int p5), .val (.int p6), .val (.int (2 : Int32)), .val (.ref b2), .val (.ref b30), .val (.int sa), .val (.int ea), .val (.int nl), .val (.ref b160)] [(.int nl), (.int (2 : Int32)), (.ref b2), (.ref b160)])) _
      refine XS.iload X201.here hx rfl (hb hby at_239) rfl ?_
      show Steps p.tables e below (T201.setTop (mkF m 241 #[.val (.int p1), .val (.int p2), .val (.int p3), .val (.int p4), .val (.int p5), .val (.int p6), .val (.int (2 : Int32)), .val (.ref b2), .val (.ref b30), .val (.int sa), .val (.int ea), .val (.int nl), .val (.ref b160)] [(.int sa), (.int nl), (.int (2 : Int32)), (.ref b2), (.ref b160)])) _
      refine XS.iload X201.here hx rfl (hb hby at_241) rfl ?_
      show Steps p.tables e below (T201.setTop (mkF m 243 #[.val (.int p1), .val (.int p2), .val (.int p3), .val (.int p4), .val (.int p5), .val (.int p6), .val (.int (2 : Int32)), .val (.ref b2), .val (.ref b30), .val (.int sa), .val (.int ea), .val (.int nl), .val (.ref b160)] [(.int ea), (.int sa), (.int nl), (.int (2 : Int32)), (.ref b2), (.ref b160)])) _
      exact k
    obtain ⟨_, _, ⟨T205, L205, kk205, nn205⟩, -, X205, ⟨Lc205, hQ205, lq205, yq205, zq205⟩, st205⟩ := Jvm.LawKit.callS X201 hx (y := (⟨"org/arborlog/pattern/LineTextDeletePinLaw", "slotOk", "([C[CIIII)Z"⟩ : MethodName)) hown (mvT hZ (hw _ (List.mem_of_getElem? (i := 34) rfl))) (mvT hZ (hw _ (List.mem_of_getElem? (i := 35) rfl))) (mvT hZ (hw _ (List.mem_of_getElem? (i := 36) rfl))) (mvT hZ (hw _ (List.mem_of_getElem? (i := 37) rfl))) (by decide) (backOf (W := 0) (rm6 l Z a0 hw [] b160 b2 (2 : Int32) nl sa ea kb160 kn2 zb160 vs175 [(.int (nar .char (p4.toUInt32.toUInt16.toUInt32.toInt32))), (.int (nar .char (((p4.toUInt32 >>> ((16 : Int32) &&& 31).toUInt32).toInt32).toUInt32.toUInt16.toUInt32.toInt32))), (.int (nar .char (p5.toUInt32.toUInt16.toUInt32.toInt32))), (.int (nar .char (((p5.toUInt32 >>> ((16 : Int32) &&& 31).toUInt32).toInt32).toUInt32.toUInt16.toUInt32.toInt32)))] T175.heap n0 Z179 Vb175 f177 (own_slot 2 rfl (by decide) hB hz160.1 h_nl hA175 hB175 hf)) hZ (hw _ (List.mem_of_getElem? (i := 37) rfl)) (hw _ (List.mem_of_getElem? (i := 36) rfl)) (by decide) (by decide)) (g := (mkF m 243 #[.val (.int p1), .val (.int p2), .val (.int p3), .val (.int p4), .val (.int p5), .val (.int p6), .val (.int (2 : Int32)), .val (.ref b2), .val (.ref b30), .val (.int sa), .val (.int ea), .val (.int nl), .val (.ref b160)] [(.int ea), (.int sa), (.int nl), (.int (2 : Int32)), (.ref b2), (.ref b160)])) rfl (by rw [hml]; rfl) (argsL := [(.ref b160), (.ref b2), (.int (2 : Int32)), (.int nl), (.int sa), (.int ea)]) (rest := []) (lenOf pd_7 rfl) rfl (by show 2 * 0 + _ ≤ _; exact Nat.le_of_eq rfl) (hb hby at_243) (fun _ _ => ⟨rfl, e201, (by decide : 5 + 0 ≤ _), (by decide : 34 + 0 ≤ _)⟩)
    dsimp only [Pt.U, Pt.locs, Pt.cells, Pt.slots] at X205 lq205 yq205 zq205 st205 hQ205
    subst lq205 yq205 zq205
    obtain ⟨rfl, Nq205, e205⟩ := hQ205
    have N206 := Fr.app N202 Nq205
    have K207 : ∀ t, Steps p.tables e below (T205.setTop (mkF m 246 #[.val (.int p1), .val (.int p2), .val (.int p3), .val (.int p4), .val (.int p5), .val (.int p6), .val (.int (2 : Int32)), .val (.ref b2), .val (.ref b30), .val (.int sa), .val (.int ea), .val (.int nl), .val (.ref b160)] [(.int (1 : Int32))])) t → Steps p.tables e below G t := fun t k => K204 t (st205 _ k)
    have K208 : ∀ t, Steps p.tables e below (T205.setTop (mkF m 260 #[.val (.int p1), .val (.int p2), .val (.int p3), .val (.int p4), .val (.int p5), .val (.int p6), .val (.int (2 : Int32)), .val (.ref b2), .val (.ref b30), .val (.int sa), .val (.int ea), .val (.int nl), .val (.ref b160)] [(.int ea), (.int sa), (.int nl), (.int (3 : Int32)), (.ref b2), (.ref b160)])) t → Steps p.tables e below G t := by
      intro t k
      refine K207 t ?_
      show Steps p.tables e below (T205.setTop (mkF m 246 #[.val (.int p1), .val (.int p2), .val (.int p3), .val (.int p4), .val (.int p5), .val (.int p6), .val (.int (2 : Int32)), .val (.ref b2), .val (.ref b30), .val (.int sa), .val (.int ea), .val (.int nl), .val (.ref b160)] [(.int (1 : Int32))])) _
      refine XS.ifNo X205.here hx rfl (hb hby at_246) rfl ((if0 _ _).trans (feq (by decide)).1) ?_
      show Steps p.tables e below (T205.setTop (mkF m 249 #[.val (.int p1), .val (.int p2), .val (.int p3), .val (.int p4), .val (.int p5), .val (.int p6), .val (.int (2 : Int32)), .val (.ref b2), .val (.ref b30), .val (.int sa), .val (.int ea), .val (.int nl), .val (.ref b160)] [])) _
      refine XS.aload X205.here hx rfl (hb hby at_249) rfl rfl ?_
      show Steps p.tables e below (T205.setTop (mkF m 251 #[.val (.int p1), .val (.int p2), .val (.int p3), .val (.int p4), .val (.int p5), .val (.int p6), .val (.int (2 : Int32)), .val (.ref b2), .val (.ref b30), .val (.int sa), .val (.int ea), .val (.int nl), .val (.ref b160)] [(.ref b160)])) _
      refine XS.aload X205.here hx rfl (hb hby at_251) rfl rfl ?_
      show Steps p.tables e below (T205.setTop (mkF m 253 #[.val (.int p1), .val (.int p2), .val (.int p3), .val (.int p4), .val (.int p5), .val (.int p6), .val (.int (2 : Int32)), .val (.ref b2), .val (.ref b30), .val (.int sa), .val (.int ea), .val (.int nl), .val (.ref b160)] [(.ref b2), (.ref b160)])) _
      refine XS.iconst X205.here hx rfl (hb hby at_253) ?_
      show Steps p.tables e below (T205.setTop (mkF m 254 #[.val (.int p1), .val (.int p2), .val (.int p3), .val (.int p4), .val (.int p5), .val (.int p6), .val (.int (2 : Int32)), .val (.ref b2), .val (.ref b30), .val (.int sa), .val (.int ea), .val (.int nl), .val (.ref b160)] [(.int (3 : Int32)), (.ref b2), (.ref b160)])) _
      refine XS.iload X205.here hx rfl (hb hby at_254) rfl ?_
      show Steps p.tables e below (T205.setTop (mkF m 256 #[.val (.int p1), .val (.int p2), .val (.int p3), .val (.int p4), .val (.int p5), .val (.int p6), .val (.int (2 : Int32)), .val (.ref b2), .val (.ref b30), .val (.int sa), .val (.int ea), .val (.int nl), .val (.ref b160)] [(.int nl), (.int (3 : Int32)), (.ref b2), (.ref b160)])) _
      refine XS.iload X205.here hx rfl (hb hby at_256) rfl ?_
      show Steps p.tables e below (T205.setTop (mkF m 258 #[.val (.int p1), .val (.int p2), .val (.int p3), .val (.int p4), .val (.int p5), .val (.int p6), .val (.int (2 : Int32)), .val (.ref b2), .val (.ref b30), .val (.int sa), .val (.int ea), .val (.int nl), .val (.ref b160)] [(.int sa), (.int nl), (.int (3 : Int32)), (.ref b2), (.ref b160)])) _
      refine XS.iload X205.here hx rfl (hb hby at_258) rfl ?_
      show Steps p.tables e below (T205.setTop (mkF m 260 #[.val (.int p1), .val (.int p2), .val (.int p3), .val (.int p4), .val (.int p5), .val (.int p6), .val (.int (2 : Int32)), .val (.ref b2), .val (.ref b30), .val (.int sa), .val (.int ea), .val (.int nl), .val (.ref b160)] [(.int ea), (.int sa), (.int nl), (.int (3 : Int32)), (.ref b2), (.ref b160)])) _
      exact k
    obtain ⟨_, _, ⟨T209, L209, kk209, nn209⟩, -, X209, ⟨Lc209, hQ209, lq209, yq209, zq209⟩, st209⟩ := Jvm.LawKit.callS X205 hx (y := (⟨"org/arborlog/pattern/LineTextDeletePinLaw", "slotOk", "([C[CIIII)Z"⟩ : MethodName)) hown (mvT hZ (hw _ (List.mem_of_getElem? (i := 34) rfl))) (mvT hZ (hw _ (List.mem_of_getElem? (i := 35) rfl))) (mvT hZ (hw _ (List.mem_of_getElem? (i := 36) rfl))) (mvT hZ (hw _ (List.mem_of_getElem? (i := 37) rfl))) (by decide) (backOf (W := 0) (rm6 l Z a0 hw [] b160 b2 (3 : Int32) nl sa ea kb160 kn2 zb160 vs175 [(.int (nar .char (p4.toUInt32.toUInt16.toUInt32.toInt32))), (.int (nar .char (((p4.toUInt32 >>> ((16 : Int32) &&& 31).toUInt32).toInt32).toUInt32.toUInt16.toUInt32.toInt32))), (.int (nar .char (p5.toUInt32.toUInt16.toUInt32.toInt32))), (.int (nar .char (((p5.toUInt32 >>> ((16 : Int32) &&& 31).toUInt32).toInt32).toUInt32.toUInt16.toUInt32.toInt32)))] T175.heap n0 Z179 Vb175 f177 (own_slot 3 rfl (by decide) hB hz160.1 h_nl hA175 hB175 hf)) hZ (hw _ (List.mem_of_getElem? (i := 37) rfl)) (hw _ (List.mem_of_getElem? (i := 36) rfl)) (by decide) (by decide)) (g := (mkF m 260 #[.val (.int p1), .val (.int p2), .val (.int p3), .val (.int p4), .val (.int p5), .val (.int p6), .val (.int (2 : Int32)), .val (.ref b2), .val (.ref b30), .val (.int sa), .val (.int ea), .val (.int nl), .val (.ref b160)] [(.int ea), (.int sa), (.int nl), (.int (3 : Int32)), (.ref b2), (.ref b160)])) rfl (by rw [hml]; rfl) (argsL := [(.ref b160), (.ref b2), (.int (3 : Int32)), (.int nl), (.int sa), (.int ea)]) (rest := []) (lenOf pd_7 rfl) rfl (by show 2 * 0 + _ ≤ _; exact Nat.le_of_eq rfl) (hb hby at_260) (fun _ _ => ⟨rfl, e205, (by decide : 5 + 0 ≤ _), (by decide : 34 + 0 ≤ _)⟩)
    dsimp only [Pt.U, Pt.locs, Pt.cells, Pt.slots] at X209 lq209 yq209 zq209 st209 hQ209
    subst lq209 yq209 zq209
    obtain ⟨rfl, Nq209, e209⟩ := hQ209
    have N210 := Fr.app N206 Nq209
    have K211 : ∀ t, Steps p.tables e below (T209.setTop (mkF m 263 #[.val (.int p1), .val (.int p2), .val (.int p3), .val (.int p4), .val (.int p5), .val (.int p6), .val (.int (2 : Int32)), .val (.ref b2), .val (.ref b30), .val (.int sa), .val (.int ea), .val (.int nl), .val (.ref b160)] [(.int (1 : Int32))])) t → Steps p.tables e below G t := fun t k => K208 t (st209 _ k)
    obtain ⟨fs, hr, hrun, hended, hW, hsame⟩ := X209.leave (v := some (.int (1 : Int32))) (fun h => by rw [Bd.returns] at h; cases h)
    have KF := K211
    rw [hG] at KF
    refine ⟨_, _, KF _ ?_, hrun, hended, _, _, rfl, ?_, ⟨_, rfl⟩, hW, hsame.mono (by decide) (by decide)⟩
    · show Steps p.tables e below (T209.setTop (mkF m 263 #[.val (.int p1), .val (.int p2), .val (.int p3), .val (.int p4), .val (.int p5), .val (.int p6), .val (.int (2 : Int32)), .val (.ref b2), .val (.ref b30), .val (.int sa), .val (.int ea), .val (.int nl), .val (.ref b160)] [(.int (1 : Int32))])) _
      refine XS.ifNo X209.here hx rfl (hb hby at_263) rfl ((if0 _ _).trans (feq (by decide)).1) ?_
      show Steps p.tables e below (T209.setTop (mkF m 266 #[.val (.int p1), .val (.int p2), .val (.int p3), .val (.int p4), .val (.int p5), .val (.int p6), .val (.int (2 : Int32)), .val (.ref b2), .val (.ref b30), .val (.int sa), .val (.int ea), .val (.int nl), .val (.ref b160)] [])) _
      refine XS.iconst X209.here hx rfl (hb hby at_266) ?_
      show Steps p.tables e below (T209.setTop (mkF m 267 #[.val (.int p1), .val (.int p2), .val (.int p3), .val (.int p4), .val (.int p5), .val (.int p6), .val (.int (2 : Int32)), .val (.ref b2), .val (.ref b30), .val (.int sa), .val (.int ea), .val (.int nl), .val (.ref b160)] [(.int (1 : Int32))])) _
      refine XS.goto X209.here hx rfl (pc0 := 267) (pc' := 271) rfl (hb hby at_267) (by decide) (by decide) ?_
      show Steps p.tables e below (T209.setTop (mkF m 271 #[.val (.int p1), .val (.int p2), .val (.int p3), .val (.int p4), .val (.int p5), .val (.int p6), .val (.int (2 : Int32)), .val (.ref b2), .val (.ref b30), .val (.int sa), .val (.int ea), .val (.int nl), .val (.ref b160)] [(.int (1 : Int32))])) _
      exact retN X209 hx (t := .boolean) Bd.returns (by simp) (hb hby at_271) hr
    · show Q0 n0 _ T209.heap _
      rw [e209]
      exact ⟨rfl, N210⟩
  · have K212 : ∀ t, Steps p.tables e below (T38.setTop (mkF m 59 #[.val (.int p1), .val (.int p2), .val (.int p3), .val (.int p4), .val (.int p5), .val (.int p6), .val (.int (3 : Int32)), .val (.ref b2), .val (.ref b30), .unset, .unset, .unset, .unset] [])) t → Steps p.tables e below G t := by have q := K45; rw [hN] at q; exact q
    have K213 : ∀ t, Steps p.tables e below (T38.setTop (mkF m 69 #[.val (.int p1), .val (.int p2), .val (.int p3), .val (.int p4), .val (.int p5), .val (.int p6), .val (.int (3 : Int32)), .val (.ref b2), .val (.ref b30), .unset, .unset, .unset, .unset] [(.int (0 : Int32)), (.ref b2), (.ref b30)])) t → Steps p.tables e below G t := by
      intro t k
      refine K212 t ?_
      show Steps p.tables e below (T38.setTop (mkF m 59 #[.val (.int p1), .val (.int p2), .val (.int p3), .val (.int p4), .val (.int p5), .val (.int p6), .val (.int (3 : Int32)), .val (.ref b2), .val (.ref b30), .unset, .unset, .unset, .unset] [])) _
      refine XS.iload X38.here hx rfl (hb hby at_59) rfl ?_
      show Steps p.tables e below (T38.setTop (mkF m 61 #[.val (.int p1), .val (.int p2), .val (.int p3), .val (.int p4), .val (.int p5), .val (.int p6), .val (.int (3 : Int32)), .val (.ref b2), .val (.ref b30), .unset, .unset, .unset, .unset] [(.int (3 : Int32))])) _
      refine XS.ifNo X38.here hx rfl (hb hby at_61) rfl ((if0 _ _).trans (tlt (by decide)).2.2.2) ?_
      show Steps p.tables e below (T38.setTop (mkF m 64 #[.val (.int p1), .val (.int p2), .val (.int p3), .val (.int p4), .val (.int p5), .val (.int p6), .val (.int (3 : Int32)), .val (.ref b2), .val (.ref b30), .unset, .unset, .unset, .unset] [])) _
      refine XS.aload X38.here hx rfl (hb hby at_64) rfl rfl ?_
      show Steps p.tables e below (T38.setTop (mkF m 66 #[.val (.int p1), .val (.int p2), .val (.int p3), .val (.int p4), .val (.int p5), .val (.int p6), .val (.int (3 : Int32)), .val (.ref b2), .val (.ref b30), .unset, .unset, .unset, .unset] [(.ref b30)])) _
      refine XS.aload X38.here hx rfl (hb hby at_66) rfl rfl ?_
      show Steps p.tables e below (T38.setTop (mkF m 68 #[.val (.int p1), .val (.int p2), .val (.int p3), .val (.int p4), .val (.int p5), .val (.int p6), .val (.int (3 : Int32)), .val (.ref b2), .val (.ref b30), .unset, .unset, .unset, .unset] [(.ref b2), (.ref b30)])) _
      refine XS.iconst X38.here hx rfl (hb hby at_68) ?_
      show Steps p.tables e below (T38.setTop (mkF m 69 #[.val (.int p1), .val (.int p2), .val (.int p3), .val (.int p4), .val (.int p5), .val (.int p6), .val (.int (3 : Int32)), .val (.ref b2), .val (.ref b30), .unset, .unset, .unset, .unset] [(.int (0 : Int32)), (.ref b2), (.ref b30)])) _
      exact k
    obtain ⟨cl214, Ar214, qc214, S214, M214, Ha214, Ga214⟩ := id f40
    have hin214 : ¬ ((0 : Int32) < 0 ∨ cl214.slots.size ≤ ((0 : Int32)).toNatClampNeg) := inb_of S214 ⟨by decide, by decide⟩
    have hat214 : cl214.slots[((0 : Int32)).toNatClampNeg]? = some (.int (nar .char (p4.toUInt32.toUInt16.toUInt32.toInt32))) := Ha214.at hin214 rfl
    have K215 : ∀ t, Steps p.tables e below (T38.setTop (mkF m 70 #[.val (.int p1), .val (.int p2), .val (.int p3), .val (.int p4), .val (.int p5), .val (.int p6), .val (.int (3 : Int32)), .val (.ref b2), .val (.ref b30), .unset, .unset, .unset, .unset] [(.int (nar .char (p4.toUInt32.toUInt16.toUInt32.toInt32))), (.ref b30)])) t → Steps p.tables e below G t := fun t k => K213 t (X38.caload hx (j := (0 : Int32)) (v := (.int (nar .char (p4.toUInt32.toUInt16.toUInt32.toInt32)))) Ar214.1 (State.isArrayOf_alike hZ.alike Ar214.2.1) Ar214.2.2 hin214 hat214 (g := (mkF m 69 #[.val (.int p1), .val (.int p2), .val (.int p3), .val (.int p4), .val (.int p5), .val (.int p6), .val (.int (3 : Int32)), .val (.ref b2), .val (.ref b30), .unset, .unset, .unset, .unset] [(.int (0 : Int32)), (.ref b2), (.ref b30)])) rfl rfl (hb hby at_69) _ k)
    obtain ⟨cq216, kq216, q216a, q216b, q216c⟩ := isOf hZ rfl E38'
    obtain ⟨_, _, ⟨T216, L216, kk216, nn216⟩, -, X216, ⟨Lc216, hQ216, lq216, yq216, zq216⟩, st216⟩ := X38.virtualBack hx (y := (⟨"org/arborlog/pattern/LineText", "append", "(C)Lorg/arborlog/pattern/LineText;"⟩ : MethodName)) (z := (⟨"org/arborlog/pattern/LineText", "append", "(C)Lorg/arborlog/pattern/LineText;"⟩ : MethodName)) hown (mvT hZ (hw _ (List.mem_of_getElem? (i := 38) rfl))) (mvT hZ (hw _ (List.mem_of_getElem? (i := 39) rfl))) (notFace_of_selects (args := #[]) (mvT hZ (hw _ (List.mem_of_getElem? (i := 41) rfl)))) (mvT hZ (hw _ (List.mem_of_getElem? (i := 41) rfl))) (mvT hZ (hw _ (List.mem_of_getElem? (i := 40) rfl))) (by decide) (backOf (W := 0) (rm7 l Z a0 hw [] b30 (nar .char (p4.toUInt32.toUInt16.toUInt32.toInt32)) b38 kb38 (p6 &&& (7 : Int32)) (0 : Int32) [] T38.heap n0 Z42 E38' Fc38 Fl38 Vb38 ne_b30_b38 g_b30 g_b38 ⟨by decide, by decide⟩ hc7.1 hc7.2.2) hZ (hw _ (List.mem_of_getElem? (i := 42) rfl)) (hw _ (List.mem_of_getElem? (i := 4) rfl)) (by decide) (by decide)) q216a q216c (g := (mkF m 70 #[.val (.int p1), .val (.int p2), .val (.int p3), .val (.int p4), .val (.int p5), .val (.int p6), .val (.int (3 : Int32)), .val (.ref b2), .val (.ref b30), .unset, .unset, .unset, .unset] [(.int (nar .char (p4.toUInt32.toUInt16.toUInt32.toInt32))), (.ref b30)])) rfl (by rw [hml]; rfl) (Steps.refl _) (argsL := [(.int (nar .char (p4.toUInt32.toUInt16.toUInt32.toInt32)))]) (rest := []) (lenOf pd_8 rfl) rfl (by show 2 * 0 + _ ≤ _; exact Nat.le_of_eq rfl) (hb hby at_70) (fun _ _ => ⟨rfl, rfl, (by decide : 3 + 1 ≤ _), (by decide : 14 + 10 ≤ _)⟩)
    dsimp only [Pt.U, Pt.locs, Pt.cells, Pt.slots] at X216 lq216 yq216 zq216 st216 hQ216
    subst lq216 yq216 zq216
    obtain ⟨b216, kb216, zb216, vs216, rfl, Nq216, K216, ob216, E216', Fc216, Fl216, Vb216, hz216, hc216, hd216⟩ := hQ216
    have N217 := Fr.app N39 Nq216
    have gb216 : n0 ≤ b216 := ob216.elim (fun q => q ▸ g_b38) (fun q => Nat.le_trans Z42 q)
    have sz216 : h0.size ≤ b216 := ob216.elim (fun q => q ▸ sz_b38) (fun q => Nat.le_trans KP43.1 q)
    have ne_b2_b216 : b2 ≠ b216 := ob216.elim (fun q => q ▸ ne_b2_b38) (fun q => Nat.ne_of_lt (Nat.lt_of_lt_of_le f40.lt q))
    have ne_b30_b216 : b30 ≠ b216 := ob216.elim (fun q => q ▸ ne_b30_b38) (fun q => Nat.ne_of_lt (Nat.lt_of_lt_of_le E38'.lt q))
    have f218 := f40.keep K216 (ninS ne_b2_b30 (ninS ne_b2_b38 nin0))
    have f219 := E38'.keep K216
    have Z220 : n0 ≤ T216.heap.size := Nat.le_trans Z42 K216.1
    have KP221 : Keep h0 T216.heap [] := KP43.trans K216 (allS (Or.inr sz_b30) (allS (Or.inr sz_b38) all0))
    have f222 : Fld Z T216.heap b30 "org/arborlog/pattern/LineText" "length" "I" (.int (1 : Int32)) := Fl216
    have ct223 : vs216.getD 0 (Value.int (0 : Int32)) = .int (nar .char (nar .char (p4.toUInt32.toUInt16.toUInt32.toInt32))) := hd216
    have K224 : ∀ t, Steps p.tables e below (T216.setTop (mkF m 73 #[.val (.int p1), .val (.int p2), .val (.int p3), .val (.int p4), .val (.int p5), .val (.int p6), .val (.int (3 : Int32)), .val (.ref b2), .val (.ref b30), .unset, .unset, .unset, .unset] [(.ref b30)])) t → Steps p.tables e below G t := fun t k => K215 t (st216.trans k)
    have K225 : ∀ t, Steps p.tables e below (T216.setTop (mkF m 85 #[.val (.int p1), .val (.int p2), .val (.int p3), .val (.int p4), .val (.int p5), .val (.int p6), .val (.int (3 : Int32)), .val (.ref b2), .val (.ref b30), .unset, .unset, .unset, .unset] [(.int (1 : Int32)), (.ref b2), (.ref b30)])) t → Steps p.tables e below G t := by
      intro t k
      refine K224 t ?_
      show Steps p.tables e below (T216.setTop (mkF m 73 #[.val (.int p1), .val (.int p2), .val (.int p3), .val (.int p4), .val (.int p5), .val (.int p6), .val (.int (3 : Int32)), .val (.ref b2), .val (.ref b30), .unset, .unset, .unset, .unset] [(.ref b30)])) _
      refine XS.pop X216.here hx rfl (hb hby at_73) rfl rfl ?_
      show Steps p.tables e below (T216.setTop (mkF m 74 #[.val (.int p1), .val (.int p2), .val (.int p3), .val (.int p4), .val (.int p5), .val (.int p6), .val (.int (3 : Int32)), .val (.ref b2), .val (.ref b30), .unset, .unset, .unset, .unset] [])) _
      refine XS.iload X216.here hx rfl (hb hby at_74) rfl ?_
      show Steps p.tables e below (T216.setTop (mkF m 76 #[.val (.int p1), .val (.int p2), .val (.int p3), .val (.int p4), .val (.int p5), .val (.int p6), .val (.int (3 : Int32)), .val (.ref b2), .val (.ref b30), .unset, .unset, .unset, .unset] [(.int (3 : Int32))])) _
      refine XS.iconst X216.here hx rfl (hb hby at_76) ?_
      show Steps p.tables e below (T216.setTop (mkF m 77 #[.val (.int p1), .val (.int p2), .val (.int p3), .val (.int p4), .val (.int p5), .val (.int p6), .val (.int (3 : Int32)), .val (.ref b2), .val (.ref b30), .unset, .unset, .unset, .unset] [(.int (1 : Int32)), (.int (3 : Int32))])) _
      refine XS.icmpNo X216.here hx rfl (hb hby at_77) rfl (tlt (by decide)).2.2.2 ?_
      show Steps p.tables e below (T216.setTop (mkF m 80 #[.val (.int p1), .val (.int p2), .val (.int p3), .val (.int p4), .val (.int p5), .val (.int p6), .val (.int (3 : Int32)), .val (.ref b2), .val (.ref b30), .unset, .unset, .unset, .unset] [])) _
      refine XS.aload X216.here hx rfl (hb hby at_80) rfl rfl ?_
      show Steps p.tables e below (T216.setTop (mkF m 82 #[.val (.int p1), .val (.int p2), .val (.int p3), .val (.int p4), .val (.int p5), .val (.int p6), .val (.int (3 : Int32)), .val (.ref b2), .val (.ref b30), .unset, .unset, .unset, .unset] [(.ref b30)])) _
      refine XS.aload X216.here hx rfl (hb hby at_82) rfl rfl ?_
      show Steps p.tables e below (T216.setTop (mkF m 84 #[.val (.int p1), .val (.int p2), .val (.int p3), .val (.int p4), .val (.int p5), .val (.int p6), .val (.int (3 : Int32)), .val (.ref b2), .val (.ref b30), .unset, .unset, .unset, .unset] [(.ref b2), (.ref b30)])) _
      refine XS.iconst X216.here hx rfl (hb hby at_84) ?_
      show Steps p.tables e below (T216.setTop (mkF m 85 #[.val (.int p1), .val (.int p2), .val (.int p3), .val (.int p4), .val (.int p5), .val (.int p6), .val (.int (3 : Int32)), .val (.ref b2), .val (.ref b30), .unset, .unset, .unset, .unset] [(.int (1 : Int32)), (.ref b2), (.ref b30)])) _
      exact k
    obtain ⟨cl226, Ar226, qc226, S226, M226, Ha226, Ga226⟩ := id f218
    have hin226 : ¬ ((1 : Int32) < 0 ∨ cl226.slots.size ≤ ((1 : Int32)).toNatClampNeg) := inb_of S226 ⟨by decide, by decide⟩
    have hat226 : cl226.slots[((1 : Int32)).toNatClampNeg]? = some (.int (nar .char (((p4.toUInt32 >>> ((16 : Int32) &&& 31).toUInt32).toInt32).toUInt32.toUInt16.toUInt32.toInt32))) := Ha226.at hin226 rfl
    have K227 : ∀ t, Steps p.tables e below (T216.setTop (mkF m 86 #[.val (.int p1), .val (.int p2), .val (.int p3), .val (.int p4), .val (.int p5), .val (.int p6), .val (.int (3 : Int32)), .val (.ref b2), .val (.ref b30), .unset, .unset, .unset, .unset] [(.int (nar .char (((p4.toUInt32 >>> ((16 : Int32) &&& 31).toUInt32).toInt32).toUInt32.toUInt16.toUInt32.toInt32))), (.ref b30)])) t → Steps p.tables e below G t := fun t k => K225 t (X216.caload hx (j := (1 : Int32)) (v := (.int (nar .char (((p4.toUInt32 >>> ((16 : Int32) &&& 31).toUInt32).toInt32).toUInt32.toUInt16.toUInt32.toInt32)))) Ar226.1 (State.isArrayOf_alike hZ.alike Ar226.2.1) Ar226.2.2 hin226 hat226 (g := (mkF m 85 #[.val (.int p1), .val (.int p2), .val (.int p3), .val (.int p4), .val (.int p5), .val (.int p6), .val (.int (3 : Int32)), .val (.ref b2), .val (.ref b30), .unset, .unset, .unset, .unset] [(.int (1 : Int32)), (.ref b2), (.ref b30)])) rfl rfl (hb hby at_85) _ k)
    obtain ⟨cq228, kq228, q228a, q228b, q228c⟩ := isOf hZ rfl E216'
    obtain ⟨_, _, ⟨T228, L228, kk228, nn228⟩, -, X228, ⟨Lc228, hQ228, lq228, yq228, zq228⟩, st228⟩ := X216.virtualBack hx (y := (⟨"org/arborlog/pattern/LineText", "append", "(C)Lorg/arborlog/pattern/LineText;"⟩ : MethodName)) (z := (⟨"org/arborlog/pattern/LineText", "append", "(C)Lorg/arborlog/pattern/LineText;"⟩ : MethodName)) hown (mvT hZ (hw _ (List.mem_of_getElem? (i := 38) rfl))) (mvT hZ (hw _ (List.mem_of_getElem? (i := 39) rfl))) (notFace_of_selects (args := #[]) (mvT hZ (hw _ (List.mem_of_getElem? (i := 41) rfl)))) (mvT hZ (hw _ (List.mem_of_getElem? (i := 41) rfl))) (mvT hZ (hw _ (List.mem_of_getElem? (i := 40) rfl))) (by decide) (backOf (W := 0) (rm7 l Z a0 hw [] b30 (nar .char (((p4.toUInt32 >>> ((16 : Int32) &&& 31).toUInt32).toInt32).toUInt32.toUInt16.toUInt32.toInt32)) b216 kb216 zb216 (1 : Int32) vs216 T216.heap n0 Z220 E216' Fc216 f222 Vb216 ne_b30_b216 g_b30 gb216 ⟨by decide, by decide⟩ hz216.1 hz216.2) hZ (hw _ (List.mem_of_getElem? (i := 42) rfl)) (hw _ (List.mem_of_getElem? (i := 4) rfl)) (by decide) (by decide)) q228a q228c (g := (mkF m 86 #[.val (.int p1), .val (.int p2), .val (.int p3), .val (.int p4), .val (.int p5), .val (.int p6), .val (.int (3 : Int32)), .val (.ref b2), .val (.ref b30), .unset, .unset, .unset, .unset] [(.int (nar .char (((p4.toUInt32 >>> ((16 : Int32) &&& 31).toUInt32).toInt32).toUInt32.toUInt16.toUInt32.toInt32))), (.ref b30)])) rfl (by rw [hml]; rfl) (Steps.refl _) (argsL := [(.int (nar .char (((p4.toUInt32 >>> ((16 : Int32) &&& 31).toUInt32).toInt32).toUInt32.toUInt16.toUInt32.toInt32)))]) (rest := []) (lenOf pd_8 rfl) rfl (by show 2 * 0 + _ ≤ _; exact Nat.le_of_eq rfl) (hb hby at_86) (fun _ _ => ⟨rfl, rfl, (by decide : 4 + 1 ≤ _), (by decide : 24 + 10 ≤ _)⟩)
    dsimp only [Pt.U, Pt.locs, Pt.cells, Pt.slots] at X228 lq228 yq228 zq228 st228 hQ228
    subst lq228 yq228 zq228
    obtain ⟨b228, kb228, zb228, vs228, rfl, Nq228, K228, ob228, E228', Fc228, Fl228, Vb228, hz228, hc228, hd228⟩ := hQ228
    have N229 := Fr.app N217 Nq228
    have gb228 : n0 ≤ b228 := ob228.elim (fun q => q ▸ gb216) (fun q => Nat.le_trans Z220 q)
    have sz228 : h0.size ≤ b228 := ob228.elim (fun q => q ▸ sz216) (fun q => Nat.le_trans KP221.1 q)
    have ne_b2_b228 : b2 ≠ b228 := ob228.elim (fun q => q ▸ ne_b2_b216) (fun q => Nat.ne_of_lt (Nat.lt_of_lt_of_le f218.lt q))
    have ne_b30_b228 : b30 ≠ b228 := ob228.elim (fun q => q ▸ ne_b30_b216) (fun q => Nat.ne_of_lt (Nat.lt_of_lt_of_le E216'.lt q))
    have f230 := f218.keep K228 (ninS ne_b2_b30 (ninS ne_b2_b216 nin0))
    have f231 := E216'.keep K228
    have Z232 : n0 ≤ T228.heap.size := Nat.le_trans Z220 K228.1
    have KP233 : Keep h0 T228.heap [] := KP221.trans K228 (allS (Or.inr sz_b30) (allS (Or.inr sz216) all0))
    have f234 : Fld Z T228.heap b30 "org/arborlog/pattern/LineText" "length" "I" (.int (2 : Int32)) := Fl228
    have ct235 : vs228.getD 0 (Value.int (0 : Int32)) = .int (nar .char (nar .char (p4.toUInt32.toUInt16.toUInt32.toInt32))) := (hc228 0 (by decide)).trans ct223
    have ct236 : vs228.getD 1 (Value.int (0 : Int32)) = .int (nar .char (nar .char (((p4.toUInt32 >>> ((16 : Int32) &&& 31).toUInt32).toInt32).toUInt32.toUInt16.toUInt32.toInt32))) := hd228
    have K237 : ∀ t, Steps p.tables e below (T228.setTop (mkF m 89 #[.val (.int p1), .val (.int p2), .val (.int p3), .val (.int p4), .val (.int p5), .val (.int p6), .val (.int (3 : Int32)), .val (.ref b2), .val (.ref b30), .unset, .unset, .unset, .unset] [(.ref b30)])) t → Steps p.tables e below G t := fun t k => K227 t (st228.trans k)
    have K238 : ∀ t, Steps p.tables e below (T228.setTop (mkF m 101 #[.val (.int p1), .val (.int p2), .val (.int p3), .val (.int p4), .val (.int p5), .val (.int p6), .val (.int (3 : Int32)), .val (.ref b2), .val (.ref b30), .unset, .unset, .unset, .unset] [(.int (2 : Int32)), (.ref b2), (.ref b30)])) t → Steps p.tables e below G t := by
      intro t k
      refine K237 t ?_
      show Steps p.tables e below (T228.setTop (mkF m 89 #[.val (.int p1), .val (.int p2), .val (.int p3), .val (.int p4), .val (.int p5), .val (.int p6), .val (.int (3 : Int32)), .val (.ref b2), .val (.ref b30), .unset, .unset, .unset, .unset] [(.ref b30)])) _
      refine XS.pop X228.here hx rfl (hb hby at_89) rfl rfl ?_
      show Steps p.tables e below (T228.setTop (mkF m 90 #[.val (.int p1), .val (.int p2), .val (.int p3), .val (.int p4), .val (.int p5), .val (.int p6), .val (.int (3 : Int32)), .val (.ref b2), .val (.ref b30), .unset, .unset, .unset, .unset] [])) _
      refine XS.iload X228.here hx rfl (hb hby at_90) rfl ?_
      show Steps p.tables e below (T228.setTop (mkF m 92 #[.val (.int p1), .val (.int p2), .val (.int p3), .val (.int p4), .val (.int p5), .val (.int p6), .val (.int (3 : Int32)), .val (.ref b2), .val (.ref b30), .unset, .unset, .unset, .unset] [(.int (3 : Int32))])) _
      refine XS.iconst X228.here hx rfl (hb hby at_92) ?_
      show Steps p.tables e below (T228.setTop (mkF m 93 #[.val (.int p1), .val (.int p2), .val (.int p3), .val (.int p4), .val (.int p5), .val (.int p6), .val (.int (3 : Int32)), .val (.ref b2), .val (.ref b30), .unset, .unset, .unset, .unset] [(.int (2 : Int32)), (.int (3 : Int32))])) _
      refine XS.icmpNo X228.here hx rfl (hb hby at_93) rfl (tlt (by decide)).2.2.2 ?_
      show Steps p.tables e below (T228.setTop (mkF m 96 #[.val (.int p1), .val (.int p2), .val (.int p3), .val (.int p4), .val (.int p5), .val (.int p6), .val (.int (3 : Int32)), .val (.ref b2), .val (.ref b30), .unset, .unset, .unset, .unset] [])) _
      refine XS.aload X228.here hx rfl (hb hby at_96) rfl rfl ?_
      show Steps p.tables e below (T228.setTop (mkF m 98 #[.val (.int p1), .val (.int p2), .val (.int p3), .val (.int p4), .val (.int p5), .val (.int p6), .val (.int (3 : Int32)), .val (.ref b2), .val (.ref b30), .unset, .unset, .unset, .unset] [(.ref b30)])) _
      refine XS.aload X228.here hx rfl (hb hby at_98) rfl rfl ?_
      show Steps p.tables e below (T228.setTop (mkF m 100 #[.val (.int p1), .val (.int p2), .val (.int p3), .val (.int p4), .val (.int p5), .val (.int p6), .val (.int (3 : Int32)), .val (.ref b2), .val (.ref b30), .unset, .unset, .unset, .unset] [(.ref b2), (.ref b30)])) _
      refine XS.iconst X228.here hx rfl (hb hby at_100) ?_
      show Steps p.tables e below (T228.setTop (mkF m 101 #[.val (.int p1), .val (.int p2), .val (.int p3), .val (.int p4), .val (.int p5), .val (.int p6), .val (.int (3 : Int32)), .val (.ref b2), .val (.ref b30), .unset, .unset, .unset, .unset] [(.int (2 : Int32)), (.ref b2), (.ref b30)])) _
      exact k
    obtain ⟨cl239, Ar239, qc239, S239, M239, Ha239, Ga239⟩ := id f230
    have hin239 : ¬ ((2 : Int32) < 0 ∨ cl239.slots.size ≤ ((2 : Int32)).toNatClampNeg) := inb_of S239 ⟨by decide, by decide⟩
    have hat239 : cl239.slots[((2 : Int32)).toNatClampNeg]? = some (.int (nar .char (p5.toUInt32.toUInt16.toUInt32.toInt32))) := Ha239.at hin239 rfl
    have K240 : ∀ t, Steps p.tables e below (T228.setTop (mkF m 102 #[.val (.int p1), .val (.int p2), .val (.int p3), .val (.int p4), .val (.int p5), .val (.int p6), .val (.int (3 : Int32)), .val (.ref b2), .val (.ref b30), .unset, .unset, .unset, .unset] [(.int (nar .char (p5.toUInt32.toUInt16.toUInt32.toInt32))), (.ref b30)])) t → Steps p.tables e below G t := fun t k => K238 t (X228.caload hx (j := (2 : Int32)) (v := (.int (nar .char (p5.toUInt32.toUInt16.toUInt32.toInt32)))) Ar239.1 (State.isArrayOf_alike hZ.alike Ar239.2.1) Ar239.2.2 hin239 hat239 (g := (mkF m 101 #[.val (.int p1), .val (.int p2), .val (.int p3), .val (.int p4), .val (.int p5), .val (.int p6), .val (.int (3 : Int32)), .val (.ref b2), .val (.ref b30), .unset, .unset, .unset, .unset] [(.int (2 : Int32)), (.ref b2), (.ref b30)])) rfl rfl (hb hby at_101) _ k)
    obtain ⟨cq241, kq241, q241a, q241b, q241c⟩ := isOf hZ rfl E228'
    obtain ⟨_, _, ⟨T241, L241, kk241, nn241⟩, -, X241, ⟨Lc241, hQ241, lq241, yq241, zq241⟩, st241⟩ := X228.virtualBack hx (y := (⟨"org/arborlog/pattern/LineText", "append", "(C)Lorg/arborlog/pattern/LineText;"⟩ : MethodName)) (z := (⟨"org/arborlog/pattern/LineText", "append", "(C)Lorg/arborlog/pattern/LineText;"⟩ : MethodName)) hown (mvT hZ (hw _ (List.mem_of_getElem? (i := 38) rfl))) (mvT hZ (hw _ (List.mem_of_getElem? (i := 39) rfl))) (notFace_of_selects (args := #[]) (mvT hZ (hw _ (List.mem_of_getElem? (i := 41) rfl)))) (mvT hZ (hw _ (List.mem_of_getElem? (i := 41) rfl))) (mvT hZ (hw _ (List.mem_of_getElem? (i := 40) rfl))) (by decide) (backOf (W := 0) (rm7 l Z a0 hw [] b30 (nar .char (p5.toUInt32.toUInt16.toUInt32.toInt32)) b228 kb228 zb228 (2 : Int32) vs228 T228.heap n0 Z232 E228' Fc228 f234 Vb228 ne_b30_b228 g_b30 gb228 ⟨by decide, by decide⟩ hz228.1 hz228.2) hZ (hw _ (List.mem_of_getElem? (i := 42) rfl)) (hw _ (List.mem_of_getElem? (i := 4) rfl)) (by decide) (by decide)) q241a q241c (g := (mkF m 102 #[.val (.int p1), .val (.int p2), .val (.int p3), .val (.int p4), .val (.int p5), .val (.int p6), .val (.int (3 : Int32)), .val (.ref b2), .val (.ref b30), .unset, .unset, .unset, .unset] [(.int (nar .char (p5.toUInt32.toUInt16.toUInt32.toInt32))), (.ref b30)])) rfl (by rw [hml]; rfl) (Steps.refl _) (argsL := [(.int (nar .char (p5.toUInt32.toUInt16.toUInt32.toInt32)))]) (rest := []) (lenOf pd_8 rfl) rfl (by show 2 * 0 + _ ≤ _; exact Nat.le_of_eq rfl) (hb hby at_102) (fun _ _ => ⟨rfl, rfl, (by decide : 5 + 1 ≤ _), (by decide : 34 + 10 ≤ _)⟩)
    dsimp only [Pt.U, Pt.locs, Pt.cells, Pt.slots] at X241 lq241 yq241 zq241 st241 hQ241
    subst lq241 yq241 zq241
    obtain ⟨b241, kb241, zb241, vs241, rfl, Nq241, K241, ob241, E241', Fc241, Fl241, Vb241, hz241, hc241, hd241⟩ := hQ241
    have N242 := Fr.app N229 Nq241
    have gb241 : n0 ≤ b241 := ob241.elim (fun q => q ▸ gb228) (fun q => Nat.le_trans Z232 q)
    have sz241 : h0.size ≤ b241 := ob241.elim (fun q => q ▸ sz228) (fun q => Nat.le_trans KP233.1 q)
    have ne_b2_b241 : b2 ≠ b241 := ob241.elim (fun q => q ▸ ne_b2_b228) (fun q => Nat.ne_of_lt (Nat.lt_of_lt_of_le f230.lt q))
    have ne_b30_b241 : b30 ≠ b241 := ob241.elim (fun q => q ▸ ne_b30_b228) (fun q => Nat.ne_of_lt (Nat.lt_of_lt_of_le E228'.lt q))
    have f243 := f230.keep K241 (ninS ne_b2_b30 (ninS ne_b2_b228 nin0))
    have f244 := E228'.keep K241
    have Z245 : n0 ≤ T241.heap.size := Nat.le_trans Z232 K241.1
    have KP246 : Keep h0 T241.heap [] := KP233.trans K241 (allS (Or.inr sz_b30) (allS (Or.inr sz228) all0))
    have f247 : Fld Z T241.heap b30 "org/arborlog/pattern/LineText" "length" "I" (.int (3 : Int32)) := Fl241
    have ct248 : vs241.getD 0 (Value.int (0 : Int32)) = .int (nar .char (nar .char (p4.toUInt32.toUInt16.toUInt32.toInt32))) := (hc241 0 (by decide)).trans ct235
    have ct249 : vs241.getD 1 (Value.int (0 : Int32)) = .int (nar .char (nar .char (((p4.toUInt32 >>> ((16 : Int32) &&& 31).toUInt32).toInt32).toUInt32.toUInt16.toUInt32.toInt32))) := (hc241 1 (by decide)).trans ct236
    have ct250 : vs241.getD 2 (Value.int (0 : Int32)) = .int (nar .char (nar .char (p5.toUInt32.toUInt16.toUInt32.toInt32))) := hd241
    have K251 : ∀ t, Steps p.tables e below (T241.setTop (mkF m 105 #[.val (.int p1), .val (.int p2), .val (.int p3), .val (.int p4), .val (.int p5), .val (.int p6), .val (.int (3 : Int32)), .val (.ref b2), .val (.ref b30), .unset, .unset, .unset, .unset] [(.ref b30)])) t → Steps p.tables e below G t := fun t k => K240 t (st241.trans k)
    have K252 : ∀ t, Steps p.tables e below (T241.setTop (mkF m 131 #[.val (.int p1), .val (.int p2), .val (.int p3), .val (.int p4), .val (.int p5), .val (.int p6), .val (.int (3 : Int32)), .val (.ref b2), .val (.ref b30), .unset, .unset, .unset, .unset] [(.int ((p2 &&& (2147483647 : Int32)) % (4 : Int32)))])) t → Steps p.tables e below G t := by
      intro t k
      refine K251 t ?_
      show Steps p.tables e below (T241.setTop (mkF m 105 #[.val (.int p1), .val (.int p2), .val (.int p3), .val (.int p4), .val (.int p5), .val (.int p6), .val (.int (3 : Int32)), .val (.ref b2), .val (.ref b30), .unset, .unset, .unset, .unset] [(.ref b30)])) _
      refine XS.pop X241.here hx rfl (hb hby at_105) rfl rfl ?_
      show Steps p.tables e below (T241.setTop (mkF m 106 #[.val (.int p1), .val (.int p2), .val (.int p3), .val (.int p4), .val (.int p5), .val (.int p6), .val (.int (3 : Int32)), .val (.ref b2), .val (.ref b30), .unset, .unset, .unset, .unset] [])) _
      refine XS.iload X241.here hx rfl (hb hby at_106) rfl ?_
      show Steps p.tables e below (T241.setTop (mkF m 108 #[.val (.int p1), .val (.int p2), .val (.int p3), .val (.int p4), .val (.int p5), .val (.int p6), .val (.int (3 : Int32)), .val (.ref b2), .val (.ref b30), .unset, .unset, .unset, .unset] [(.int (3 : Int32))])) _
      refine XS.iconst X241.here hx rfl (hb hby at_108) ?_
      show Steps p.tables e below (T241.setTop (mkF m 109 #[.val (.int p1), .val (.int p2), .val (.int p3), .val (.int p4), .val (.int p5), .val (.int p6), .val (.int (3 : Int32)), .val (.ref b2), .val (.ref b30), .unset, .unset, .unset, .unset] [(.int (3 : Int32)), (.int (3 : Int32))])) _
      refine XS.icmpYes X241.here hx rfl (pc0 := 109) (pc' := 122) rfl (hb hby at_109) rfl (flt (by decide)).2.2.2 (by decide) (by decide) ?_
      show Steps p.tables e below (T241.setTop (mkF m 122 #[.val (.int p1), .val (.int p2), .val (.int p3), .val (.int p4), .val (.int p5), .val (.int p6), .val (.int (3 : Int32)), .val (.ref b2), .val (.ref b30), .unset, .unset, .unset, .unset] [])) _
      refine XS.iloadN X241.here hx rfl (hb hby at_122) rfl ?_
      show Steps p.tables e below (T241.setTop (mkF m 123 #[.val (.int p1), .val (.int p2), .val (.int p3), .val (.int p4), .val (.int p5), .val (.int p6), .val (.int (3 : Int32)), .val (.ref b2), .val (.ref b30), .unset, .unset, .unset, .unset] [(.int p2)])) _
      refine X241.ldcInt hx hown (mvT hZ (hw _ (List.mem_of_getElem? (i := 0) rfl))) (g := (mkF m 123 #[.val (.int p1), .val (.int p2), .val (.int p3), .val (.int p4), .val (.int p5), .val (.int p6), .val (.int (3 : Int32)), .val (.ref b2), .val (.ref b30), .unset, .unset, .unset, .unset] [(.int p2)])) rfl (hb hby at_123) _ ?_
      show Steps p.tables e below (T241.setTop (mkF m 125 #[.val (.int p1), .val (.int p2), .val (.int p3), .val (.int p4), .val (.int p5), .val (.int p6), .val (.int (3 : Int32)), .val (.ref b2), .val (.ref b30), .unset, .unset, .unset, .unset] [(.int (2147483647 : Int32)), (.int p2)])) _
      refine XS.iand X241.here hx rfl (hb hby at_125) rfl ?_
      show Steps p.tables e below (T241.setTop (mkF m 126 #[.val (.int p1), .val (.int p2), .val (.int p3), .val (.int p4), .val (.int p5), .val (.int p6), .val (.int (3 : Int32)), .val (.ref b2), .val (.ref b30), .unset, .unset, .unset, .unset] [(.int (p2 &&& (2147483647 : Int32)))])) _
      refine XS.iload X241.here hx rfl (hb hby at_126) rfl ?_
      show Steps p.tables e below (T241.setTop (mkF m 128 #[.val (.int p1), .val (.int p2), .val (.int p3), .val (.int p4), .val (.int p5), .val (.int p6), .val (.int (3 : Int32)), .val (.ref b2), .val (.ref b30), .unset, .unset, .unset, .unset] [(.int (3 : Int32)), (.int (p2 &&& (2147483647 : Int32)))])) _
      refine XS.iconst X241.here hx rfl (hb hby at_128) ?_
      show Steps p.tables e below (T241.setTop (mkF m 129 #[.val (.int p1), .val (.int p2), .val (.int p3), .val (.int p4), .val (.int p5), .val (.int p6), .val (.int (3 : Int32)), .val (.ref b2), .val (.ref b30), .unset, .unset, .unset, .unset] [(.int (1 : Int32)), (.int (3 : Int32)), (.int (p2 &&& (2147483647 : Int32)))])) _
      refine XS.iadd X241.here hx rfl (hb hby at_129) rfl ?_
      show Steps p.tables e below (T241.setTop (mkF m 130 #[.val (.int p1), .val (.int p2), .val (.int p3), .val (.int p4), .val (.int p5), .val (.int p6), .val (.int (3 : Int32)), .val (.ref b2), .val (.ref b30), .unset, .unset, .unset, .unset] [(.int (4 : Int32)), (.int (p2 &&& (2147483647 : Int32)))])) _
      refine iremM X241 hx rfl (hb hby at_130) rfl (by decide) ?_
      show Steps p.tables e below (T241.setTop (mkF m 131 #[.val (.int p1), .val (.int p2), .val (.int p3), .val (.int p4), .val (.int p5), .val (.int p6), .val (.int (3 : Int32)), .val (.ref b2), .val (.ref b30), .unset, .unset, .unset, .unset] [(.int ((p2 &&& (2147483647 : Int32)) % (4 : Int32)))])) _
      exact k
    obtain ⟨sa, h_sa⟩ : ∃ z_ : Int32, z_ = ((p2 &&& (2147483647 : Int32)) % (4 : Int32)) := ⟨_, rfl⟩
    have K253 : ∀ t, Steps p.tables e below (T241.setTop (mkF m 131 #[.val (.int p1), .val (.int p2), .val (.int p3), .val (.int p4), .val (.int p5), .val (.int p6), .val (.int (3 : Int32)), .val (.ref b2), .val (.ref b30), .unset, .unset, .unset, .unset] [(.int sa)])) t → Steps p.tables e below G t := by rw [h_sa]; exact K252
    have hsa := own_st p2 (3 : Int32) (4 : Int32) rfl (by decide) sa h_sa
    have K254 : ∀ t, Steps p.tables e below (T241.setTop (mkF m 148 #[.val (.int p1), .val (.int p2), .val (.int p3), .val (.int p4), .val (.int p5), .val (.int p6), .val (.int (3 : Int32)), .val (.ref b2), .val (.ref b30), .val (.int sa), .unset, .unset, .unset] [(.int (sa + ((p3 &&& (2147483647 : Int32)) % (((3 : Int32) - sa) + (1 : Int32)))))])) t → Steps p.tables e below G t := by
      intro t k
      refine K253 t ?_
      show Steps p.tables e below (T241.setTop (mkF m 131 #[.val (.int p1), .val (.int p2), .val (.int p3), .val (.int p4), .val (.int p5), .val (.int p6), .val (.int (3 : Int32)), .val (.ref b2), .val (.ref b30), .unset, .unset, .unset, .unset] [(.int sa)])) _
      refine XS.istore X241.here hx rfl (hb hby at_131) rfl (l' := #[.val (.int p1), .val (.int p2), .val (.int p3), .val (.int p4), .val (.int p5), .val (.int p6), .val (.int (3 : Int32)), .val (.ref b2), .val (.ref b30), .val (.int sa), .unset, .unset, .unset]) rfl ?_
      show Steps p.tables e below (T241.setTop (mkF m 133 #[.val (.int p1), .val (.int p2), .val (.int p3), .val (.int p4), .val (.int p5), .val (.int p6), .val (.int (3 : Int32)), .val (.ref b2), .val (.ref b30), .val (.int sa), .unset, .unset, .unset] [])) _
      refine XS.iload X241.here hx rfl (hb hby at_133) rfl ?_
      show Steps p.tables e below (T241.setTop (mkF m 135 #[.val (.int p1), .val (.int p2), .val (.int p3), .val (.int p4), .val (.int p5), .val (.int p6), .val (.int (3 : Int32)), .val (.ref b2), .val (.ref b30), .val (.int sa), .unset, .unset, .unset] [(.int sa)])) _
      refine XS.iloadN X241.here hx rfl (hb hby at_135) rfl ?_
      show Steps p.tables e below (T241.setTop (mkF m 136 #[.val (.int p1), .val (.int p2), .val (.int p3), .val (.int p4), .val (.int p5), .val (.int p6), .val (.int (3 : Int32)), .val (.ref b2), .val (.ref b30), .val (.int sa), .unset, .unset, .unset] [(.int p3), (.int sa)])) _
      refine X241.ldcInt hx hown (mvT hZ (hw _ (List.mem_of_getElem? (i := 0) rfl))) (g := (mkF m 136 #[.val (.int p1), .val (.int p2), .val (.int p3), .val (.int p4), .val (.int p5), .val (.int p6), .val (.int (3 : Int32)), .val (.ref b2), .val (.ref b30), .val (.int sa), .unset, .unset, .unset] [(.int p3), (.int sa)])) rfl (hb hby at_136) _ ?_
      show Steps p.tables e below (T241.setTop (mkF m 138 #[.val (.int p1), .val (.int p2), .val (.int p3), .val (.int p4), .val (.int p5), .val (.int p6), .val (.int (3 : Int32)), .val (.ref b2), .val (.ref b30), .val (.int sa), .unset, .unset, .unset] [(.int (2147483647 : Int32)), (.int p3), (.int sa)])) _
      refine XS.iand X241.here hx rfl (hb hby at_138) rfl ?_
      show Steps p.tables e below (T241.setTop (mkF m 139 #[.val (.int p1), .val (.int p2), .val (.int p3), .val (.int p4), .val (.int p5), .val (.int p6), .val (.int (3 : Int32)), .val (.ref b2), .val (.ref b30), .val (.int sa), .unset, .unset, .unset] [(.int (p3 &&& (2147483647 : Int32))), (.int sa)])) _
      refine XS.iload X241.here hx rfl (hb hby at_139) rfl ?_
      show Steps p.tables e below (T241.setTop (mkF m 141 #[.val (.int p1), .val (.int p2), .val (.int p3), .val (.int p4), .val (.int p5), .val (.int p6), .val (.int (3 : Int32)), .val (.ref b2), .val (.ref b30), .val (.int sa), .unset, .unset, .unset] [(.int (3 : Int32)), (.int (p3 &&& (2147483647 : Int32))), (.int sa)])) _
      refine XS.iload X241.here hx rfl (hb hby at_141) rfl ?_
      show Steps p.tables e below (T241.setTop (mkF m 143 #[.val (.int p1), .val (.int p2), .val (.int p3), .val (.int p4), .val (.int p5), .val (.int p6), .val (.int (3 : Int32)), .val (.ref b2), .val (.ref b30), .val (.int sa), .unset, .unset, .unset] [(.int sa), (.int (3 : Int32)), (.int (p3 &&& (2147483647 : Int32))), (.int sa)])) _
      refine XS.isub X241.here hx rfl (hb hby at_143) rfl ?_
      show Steps p.tables e below (T241.setTop (mkF m 144 #[.val (.int p1), .val (.int p2), .val (.int p3), .val (.int p4), .val (.int p5), .val (.int p6), .val (.int (3 : Int32)), .val (.ref b2), .val (.ref b30), .val (.int sa), .unset, .unset, .unset] [(.int ((3 : Int32) - sa)), (.int (p3 &&& (2147483647 : Int32))), (.int sa)])) _
      refine XS.iconst X241.here hx rfl (hb hby at_144) ?_
      show Steps p.tables e below (T241.setTop (mkF m 145 #[.val (.int p1), .val (.int p2), .val (.int p3), .val (.int p4), .val (.int p5), .val (.int p6), .val (.int (3 : Int32)), .val (.ref b2), .val (.ref b30), .val (.int sa), .unset, .unset, .unset] [(.int (1 : Int32)), (.int ((3 : Int32) - sa)), (.int (p3 &&& (2147483647 : Int32))), (.int sa)])) _
      refine XS.iadd X241.here hx rfl (hb hby at_145) rfl ?_
      show Steps p.tables e below (T241.setTop (mkF m 146 #[.val (.int p1), .val (.int p2), .val (.int p3), .val (.int p4), .val (.int p5), .val (.int p6), .val (.int (3 : Int32)), .val (.ref b2), .val (.ref b30), .val (.int sa), .unset, .unset, .unset] [(.int (((3 : Int32) - sa) + (1 : Int32))), (.int (p3 &&& (2147483647 : Int32))), (.int sa)])) _
      refine iremM X241 hx rfl (hb hby at_146) rfl (own_nz _ _ (by decide) hsa).2 ?_
      show Steps p.tables e below (T241.setTop (mkF m 147 #[.val (.int p1), .val (.int p2), .val (.int p3), .val (.int p4), .val (.int p5), .val (.int p6), .val (.int (3 : Int32)), .val (.ref b2), .val (.ref b30), .val (.int sa), .unset, .unset, .unset] [(.int ((p3 &&& (2147483647 : Int32)) % (((3 : Int32) - sa) + (1 : Int32)))), (.int sa)])) _
      refine XS.iadd X241.here hx rfl (hb hby at_147) rfl ?_
      show Steps p.tables e below (T241.setTop (mkF m 148 #[.val (.int p1), .val (.int p2), .val (.int p3), .val (.int p4), .val (.int p5), .val (.int p6), .val (.int (3 : Int32)), .val (.ref b2), .val (.ref b30), .val (.int sa), .unset, .unset, .unset] [(.int (sa + ((p3 &&& (2147483647 : Int32)) % (((3 : Int32) - sa) + (1 : Int32)))))])) _
      exact k
    obtain ⟨ea, h_ea⟩ : ∃ z_ : Int32, z_ = (sa + ((p3 &&& (2147483647 : Int32)) % (((3 : Int32) - sa) + (1 : Int32)))) := ⟨_, rfl⟩
    have K255 : ∀ t, Steps p.tables e below (T241.setTop (mkF m 148 #[.val (.int p1), .val (.int p2), .val (.int p3), .val (.int p4), .val (.int p5), .val (.int p6), .val (.int (3 : Int32)), .val (.ref b2), .val (.ref b30), .val (.int sa), .unset, .unset, .unset] [(.int ea)])) t → Steps p.tables e below G t := by rw [h_ea]; exact K254
    have hea := own_en p3 (3 : Int32) sa ea (by decide) hsa h_ea
    have hB : own_B (3 : Int32) sa ea := ⟨hsa.1, hea.1, hea.2, by decide⟩
    have K256 : ∀ t, Steps p.tables e below (T241.setTop (mkF m 156 #[.val (.int p1), .val (.int p2), .val (.int p3), .val (.int p4), .val (.int p5), .val (.int p6), .val (.int (3 : Int32)), .val (.ref b2), .val (.ref b30), .val (.int sa), .val (.int ea), .unset, .unset] [(.int ea), (.int sa), (.ref b30)])) t → Steps p.tables e below G t := by
      intro t k
      refine K255 t ?_
      show Steps p.tables e below (T241.setTop (mkF m 148 #[.val (.int p1), .val (.int p2), .val (.int p3), .val (.int p4), .val (.int p5), .val (.int p6), .val (.int (3 : Int32)), .val (.ref b2), .val (.ref b30), .val (.int sa), .unset, .unset, .unset] [(.int ea)])) _
      refine XS.istore X241.here hx rfl (hb hby at_148) rfl (l' := #[.val (.int p1), .val (.int p2), .val (.int p3), .val (.int p4), .val (.int p5), .val (.int p6), .val (.int (3 : Int32)), .val (.ref b2), .val (.ref b30), .val (.int sa), .val (.int ea), .unset, .unset]) rfl ?_
      show Steps p.tables e below (T241.setTop (mkF m 150 #[.val (.int p1), .val (.int p2), .val (.int p3), .val (.int p4), .val (.int p5), .val (.int p6), .val (.int (3 : Int32)), .val (.ref b2), .val (.ref b30), .val (.int sa), .val (.int ea), .unset, .unset] [])) _
      refine XS.aload X241.here hx rfl (hb hby at_150) rfl rfl ?_
      show Steps p.tables e below (T241.setTop (mkF m 152 #[.val (.int p1), .val (.int p2), .val (.int p3), .val (.int p4), .val (.int p5), .val (.int p6), .val (.int (3 : Int32)), .val (.ref b2), .val (.ref b30), .val (.int sa), .val (.int ea), .unset, .unset] [(.ref b30)])) _
      refine XS.iload X241.here hx rfl (hb hby at_152) rfl ?_
      show Steps p.tables e below (T241.setTop (mkF m 154 #[.val (.int p1), .val (.int p2), .val (.int p3), .val (.int p4), .val (.int p5), .val (.int p6), .val (.int (3 : Int32)), .val (.ref b2), .val (.ref b30), .val (.int sa), .val (.int ea), .unset, .unset] [(.int sa), (.ref b30)])) _
      refine XS.iload X241.here hx rfl (hb hby at_154) rfl ?_
      show Steps p.tables e below (T241.setTop (mkF m 156 #[.val (.int p1), .val (.int p2), .val (.int p3), .val (.int p4), .val (.int p5), .val (.int p6), .val (.int (3 : Int32)), .val (.ref b2), .val (.ref b30), .val (.int sa), .val (.int ea), .unset, .unset] [(.int ea), (.int sa), (.ref b30)])) _
      exact k
    obtain ⟨cq257, kq257, q257a, q257b, q257c⟩ := isOf hZ rfl E241'
    obtain ⟨_, _, ⟨T257, L257, kk257, nn257⟩, -, X257, ⟨Lc257, hQ257, lq257, yq257, zq257⟩, st257⟩ := X241.virtualBack hx (y := (⟨"org/arborlog/pattern/LineText", "delete", "(II)V"⟩ : MethodName)) (z := (⟨"org/arborlog/pattern/LineText", "delete", "(II)V"⟩ : MethodName)) hown (mvT hZ (hw _ (List.mem_of_getElem? (i := 13) rfl))) (mvT hZ (hw _ (List.mem_of_getElem? (i := 14) rfl))) (notFace_of_selects (args := #[]) (mvT hZ (hw _ (List.mem_of_getElem? (i := 16) rfl)))) (mvT hZ (hw _ (List.mem_of_getElem? (i := 16) rfl))) (mvT hZ (hw _ (List.mem_of_getElem? (i := 15) rfl))) (by decide) (backOf (W := 0) (rm3 l Z a0 hw [] b30 sa ea b241 kb241 zb241 (3 : Int32) vs241 T241.heap n0 Z245 E241' Fc241 f247 Vb241 ne_b30_b241 g_b30 gb241 hB hz241.1) hZ (hw _ (List.mem_of_getElem? (i := 17) rfl)) (hw _ (List.mem_of_getElem? (i := 4) rfl)) (by decide) (by decide)) q257a q257c (g := (mkF m 156 #[.val (.int p1), .val (.int p2), .val (.int p3), .val (.int p4), .val (.int p5), .val (.int p6), .val (.int (3 : Int32)), .val (.ref b2), .val (.ref b30), .val (.int sa), .val (.int ea), .unset, .unset] [(.int ea), (.int sa), (.ref b30)])) rfl (by rw [hml]; rfl) (Steps.refl _) (argsL := [(.int sa), (.int ea)]) (rest := []) (lenOf pd_4 rfl) rfl (by show 2 * 0 + _ ≤ _; exact Nat.le_of_eq rfl) (hb hby at_156) (fun _ _ => ⟨rfl, rfl, (by decide : 6 + 0 ≤ _), (by decide : 44 + 0 ≤ _)⟩)
    dsimp only [Pt.U, Pt.locs, Pt.cells, Pt.slots] at X257 lq257 yq257 zq257 st257 hQ257
    subst lq257 yq257 zq257
    obtain ⟨vs257, rfl, Nq257, K257, E257', Fc257, Fl257, Vb257, hA257, hB257⟩ := hQ257
    have N258 := Fr.app N242 Nq257
    have f259 := f243.keep K257 (ninS ne_b2_b30 (ninS ne_b2_b241 nin0))
    have f260 := E241'.keep K257
    have Z261 : n0 ≤ T257.heap.size := Nat.le_trans Z245 K257.1
    have KP262 : Keep h0 T257.heap [] := KP246.trans K257 (allS (Or.inr sz_b30) (allS (Or.inr sz241) all0))
    have K263 : ∀ t, Steps p.tables e below (T257.setTop (mkF m 159 #[.val (.int p1), .val (.int p2), .val (.int p3), .val (.int p4), .val (.int p5), .val (.int p6), .val (.int (3 : Int32)), .val (.ref b2), .val (.ref b30), .val (.int sa), .val (.int ea), .unset, .unset] [])) t → Steps p.tables e below G t := fun t k => K256 t (st257.trans k)
    have K264 : ∀ t, Steps p.tables e below (T257.setTop (mkF m 167 #[.val (.int p1), .val (.int p2), .val (.int p3), .val (.int p4), .val (.int p5), .val (.int p6), .val (.int (3 : Int32)), .val (.ref b2), .val (.ref b30), .val (.int sa), .val (.int ea), .unset, .unset] [(.int ((3 : Int32) - (ea - sa)))])) t → Steps p.tables e below G t := by
      intro t k
      refine K263 t ?_
      show Steps p.tables e below (T257.setTop (mkF m 159 #[.val (.int p1), .val (.int p2), .val (.int p3), .val (.int p4), .val (.int p5), .val (.int p6), .val (.int (3 : Int32)), .val (.ref b2), .val (.ref b30), .val (.int sa), .val (.int ea), .unset, .unset] [])) _
      refine XS.iload X257.here hx rfl (hb hby at_159) rfl ?_
      show Steps p.tables e below (T257.setTop (mkF m 161 #[.val (.int p1), .val (.int p2), .val (.int p3), .val (.int p4), .val (.int p5), .val (.int p6), .val (.int (3 : Int32)), .val (.ref b2), .val (.ref b30), .val (.int sa), .val (.int ea), .unset, .unset] [(.int (3 : Int32))])) _
      refine XS.iload X257.here hx rfl (hb hby at_161) rfl ?_
      show Steps p.tables e below (T257.setTop (mkF m 163 #[.val (.int p1), .val (.int p2), .val (.int p3), .val (.int p4), .val (.int p5), .val (.int p6), .val (.int (3 : Int32)), .val (.ref b2), .val (.ref b30), .val (.int sa), .val (.int ea), .unset, .unset] [(.int ea), (.int (3 : Int32))])) _
      refine XS.iload X257.here hx rfl (hb hby at_163) rfl ?_
      show Steps p.tables e below (T257.setTop (mkF m 165 #[.val (.int p1), .val (.int p2), .val (.int p3), .val (.int p4), .val (.int p5), .val (.int p6), .val (.int (3 : Int32)), .val (.ref b2), .val (.ref b30), .val (.int sa), .val (.int ea), .unset, .unset] [(.int sa), (.int ea), (.int (3 : Int32))])) _
      refine XS.isub X257.here hx rfl (hb hby at_165) rfl ?_
      show Steps p.tables e below (T257.setTop (mkF m 166 #[.val (.int p1), .val (.int p2), .val (.int p3), .val (.int p4), .val (.int p5), .val (.int p6), .val (.int (3 : Int32)), .val (.ref b2), .val (.ref b30), .val (.int sa), .val (.int ea), .unset, .unset] [(.int (ea - sa)), (.int (3 : Int32))])) _
      refine XS.isub X257.here hx rfl (hb hby at_166) rfl ?_
      show Steps p.tables e below (T257.setTop (mkF m 167 #[.val (.int p1), .val (.int p2), .val (.int p3), .val (.int p4), .val (.int p5), .val (.int p6), .val (.int (3 : Int32)), .val (.ref b2), .val (.ref b30), .val (.int sa), .val (.int ea), .unset, .unset] [(.int ((3 : Int32) - (ea - sa)))])) _
      exact k
    obtain ⟨nl, h_nl⟩ : ∃ z_ : Int32, z_ = ((3 : Int32) - (ea - sa)) := ⟨_, rfl⟩
    have K265 : ∀ t, Steps p.tables e below (T257.setTop (mkF m 167 #[.val (.int p1), .val (.int p2), .val (.int p3), .val (.int p4), .val (.int p5), .val (.int p6), .val (.int (3 : Int32)), .val (.ref b2), .val (.ref b30), .val (.int sa), .val (.int ea), .unset, .unset] [(.int nl)])) t → Steps p.tables e below G t := by rw [h_nl]; exact K264
    have K266 : ∀ t, Steps p.tables e below (T257.setTop (mkF m 171 #[.val (.int p1), .val (.int p2), .val (.int p3), .val (.int p4), .val (.int p5), .val (.int p6), .val (.int (3 : Int32)), .val (.ref b2), .val (.ref b30), .val (.int sa), .val (.int ea), .val (.int nl), .unset] [(.ref b30)])) t → Steps p.tables e below G t := by
      intro t k
      refine K265 t ?_
      show Steps p.tables e below (T257.setTop (mkF m 167 #[.val (.int p1), .val (.int p2), .val (.int p3), .val (.int p4), .val (.int p5), .val (.int p6), .val (.int (3 : Int32)), .val (.ref b2), .val (.ref b30), .val (.int sa), .val (.int ea), .unset, .unset] [(.int nl)])) _
      refine XS.istore X257.here hx rfl (hb hby at_167) rfl (l' := #[.val (.int p1), .val (.int p2), .val (.int p3), .val (.int p4), .val (.int p5), .val (.int p6), .val (.int (3 : Int32)), .val (.ref b2), .val (.ref b30), .val (.int sa), .val (.int ea), .val (.int nl), .unset]) rfl ?_
      show Steps p.tables e below (T257.setTop (mkF m 169 #[.val (.int p1), .val (.int p2), .val (.int p3), .val (.int p4), .val (.int p5), .val (.int p6), .val (.int (3 : Int32)), .val (.ref b2), .val (.ref b30), .val (.int sa), .val (.int ea), .val (.int nl), .unset] [])) _
      refine XS.aload X257.here hx rfl (hb hby at_169) rfl rfl ?_
      show Steps p.tables e below (T257.setTop (mkF m 171 #[.val (.int p1), .val (.int p2), .val (.int p3), .val (.int p4), .val (.int p5), .val (.int p6), .val (.int (3 : Int32)), .val (.ref b2), .val (.ref b30), .val (.int sa), .val (.int ea), .val (.int nl), .unset] [(.ref b30)])) _
      exact k
    obtain ⟨cq267, kq267, q267a, q267b, q267c⟩ := isOf hZ rfl E257'
    obtain ⟨_, _, ⟨T267, L267, kk267, nn267⟩, -, X267, ⟨Lc267, hQ267, lq267, yq267, zq267⟩, st267⟩ := X257.virtualBack hx (y := (⟨"org/arborlog/pattern/LineText", "length", "()I"⟩ : MethodName)) (z := (⟨"org/arborlog/pattern/LineText", "length", "()I"⟩ : MethodName)) hown (mvT hZ (hw _ (List.mem_of_getElem? (i := 24) rfl))) (mvT hZ (hw _ (List.mem_of_getElem? (i := 25) rfl))) (notFace_of_selects (args := #[]) (mvT hZ (hw _ (List.mem_of_getElem? (i := 27) rfl)))) (mvT hZ (hw _ (List.mem_of_getElem? (i := 27) rfl))) (mvT hZ (hw _ (List.mem_of_getElem? (i := 26) rfl))) (by decide) (backOf (W := 0) (rm4 l Z a0 hw [] b30 ((3 : Int32) - (ea - sa)) T257.heap n0 Z261 Fl257) hZ (hw _ (List.mem_of_getElem? (i := 28) rfl)) (hw _ (List.mem_of_getElem? (i := 4) rfl)) (by decide) (by decide)) q267a q267c (g := (mkF m 171 #[.val (.int p1), .val (.int p2), .val (.int p3), .val (.int p4), .val (.int p5), .val (.int p6), .val (.int (3 : Int32)), .val (.ref b2), .val (.ref b30), .val (.int sa), .val (.int ea), .val (.int nl), .unset] [(.ref b30)])) rfl (by rw [hml]; rfl) (Steps.refl _) (argsL := []) (rest := []) (lenOf pd_5 rfl) rfl (by show 2 * 0 + _ ≤ _; exact Nat.le_of_eq rfl) (hb hby at_171) (fun _ _ => ⟨rfl, rfl, (by decide : 6 + 0 ≤ _), (by decide : 44 + 0 ≤ _)⟩)
    dsimp only [Pt.U, Pt.locs, Pt.cells, Pt.slots] at X267 lq267 yq267 zq267 st267 hQ267
    subst lq267 yq267 zq267
    obtain ⟨rfl, Nq267, e267⟩ := hQ267
    have N268 := Fr.app N258 Nq267
    have K269 : ∀ t, Steps p.tables e below (T267.setTop (mkF m 174 #[.val (.int p1), .val (.int p2), .val (.int p3), .val (.int p4), .val (.int p5), .val (.int p6), .val (.int (3 : Int32)), .val (.ref b2), .val (.ref b30), .val (.int sa), .val (.int ea), .val (.int nl), .unset] [(.int ((3 : Int32) - (ea - sa)))])) t → Steps p.tables e below G t := fun t k => K266 t (st267.trans k)
    have K270 : ∀ t, Steps p.tables e below (T267.setTop (mkF m 183 #[.val (.int p1), .val (.int p2), .val (.int p3), .val (.int p4), .val (.int p5), .val (.int p6), .val (.int (3 : Int32)), .val (.ref b2), .val (.ref b30), .val (.int sa), .val (.int ea), .val (.int nl), .unset] [(.ref b30)])) t → Steps p.tables e below G t := by
      intro t k
      refine K269 t ?_
      show Steps p.tables e below (T267.setTop (mkF m 174 #[.val (.int p1), .val (.int p2), .val (.int p3), .val (.int p4), .val (.int p5), .val (.int p6), .val (.int (3 : Int32)), .val (.ref b2), .val (.ref b30), .val (.int sa), .val (.int ea), .val (.int nl), .unset] [(.int ((3 : Int32) - (ea - sa)))])) _
      refine XS.iload X267.here hx rfl (hb hby at_174) rfl ?_
      show Steps p.tables e below (T267.setTop (mkF m 176 #[.val (.int p1), .val (.int p2), .val (.int p3), .val (.int p4), .val (.int p5), .val (.int p6), .val (.int (3 : Int32)), .val (.ref b2), .val (.ref b30), .val (.int sa), .val (.int ea), .val (.int nl), .unset] [(.int nl), (.int ((3 : Int32) - (ea - sa)))])) _
      refine XS.icmpYes X267.here hx rfl (pc0 := 176) (pc' := 181) rfl (hb hby at_176) rfl (teq h_nl.symm).1 (by decide) (by decide) ?_
      show Steps p.tables e below (T267.setTop (mkF m 181 #[.val (.int p1), .val (.int p2), .val (.int p3), .val (.int p4), .val (.int p5), .val (.int p6), .val (.int (3 : Int32)), .val (.ref b2), .val (.ref b30), .val (.int sa), .val (.int ea), .val (.int nl), .unset] [])) _
      refine XS.aload X267.here hx rfl (hb hby at_181) rfl rfl ?_
      show Steps p.tables e below (T267.setTop (mkF m 183 #[.val (.int p1), .val (.int p2), .val (.int p3), .val (.int p4), .val (.int p5), .val (.int p6), .val (.int (3 : Int32)), .val (.ref b2), .val (.ref b30), .val (.int sa), .val (.int ea), .val (.int nl), .unset] [(.ref b30)])) _
      exact k
    obtain ⟨cq271, kq271, q271a, q271b, q271c⟩ := isOf hZ e267 E257'
    obtain ⟨_, _, ⟨T271, L271, kk271, nn271⟩, -, X271, ⟨Lc271, hQ271, lq271, yq271, zq271⟩, st271⟩ := X267.virtualBack hx (y := (⟨"org/arborlog/pattern/LineText", "chars", "()[C"⟩ : MethodName)) (z := (⟨"org/arborlog/pattern/LineText", "chars", "()[C"⟩ : MethodName)) hown (mvT hZ (hw _ (List.mem_of_getElem? (i := 29) rfl))) (mvT hZ (hw _ (List.mem_of_getElem? (i := 30) rfl))) (notFace_of_selects (args := #[]) (mvT hZ (hw _ (List.mem_of_getElem? (i := 32) rfl)))) (mvT hZ (hw _ (List.mem_of_getElem? (i := 32) rfl))) (mvT hZ (hw _ (List.mem_of_getElem? (i := 31) rfl))) (by decide) (backOf (W := 0) (rm5 l Z a0 hw [] b30 b241 T257.heap n0 Z261 Fc257) hZ (hw _ (List.mem_of_getElem? (i := 33) rfl)) (hw _ (List.mem_of_getElem? (i := 4) rfl)) (by decide) (by decide)) q271a q271c (g := (mkF m 183 #[.val (.int p1), .val (.int p2), .val (.int p3), .val (.int p4), .val (.int p5), .val (.int p6), .val (.int (3 : Int32)), .val (.ref b2), .val (.ref b30), .val (.int sa), .val (.int ea), .val (.int nl), .unset] [(.ref b30)])) rfl (by rw [hml]; rfl) (Steps.refl _) (argsL := []) (rest := []) (lenOf pd_6 rfl) rfl (by show 2 * 0 + _ ≤ _; exact Nat.le_of_eq rfl) (hb hby at_183) (fun _ _ => ⟨rfl, e267, (by decide : 6 + 0 ≤ _), (by decide : 44 + 0 ≤ _)⟩)
    dsimp only [Pt.U, Pt.locs, Pt.cells, Pt.slots] at X271 lq271 yq271 zq271 st271 hQ271
    subst lq271 yq271 zq271
    obtain ⟨rfl, Nq271, e271⟩ := hQ271
    have N272 := Fr.app N268 Nq271
    have K273 : ∀ t, Steps p.tables e below (T271.setTop (mkF m 186 #[.val (.int p1), .val (.int p2), .val (.int p3), .val (.int p4), .val (.int p5), .val (.int p6), .val (.int (3 : Int32)), .val (.ref b2), .val (.ref b30), .val (.int sa), .val (.int ea), .val (.int nl), .unset] [(.ref b241)])) t → Steps p.tables e below G t := fun t k => K270 t (st271.trans k)
    have K274 : ∀ t, Steps p.tables e below (T271.setTop (mkF m 190 #[.val (.int p1), .val (.int p2), .val (.int p3), .val (.int p4), .val (.int p5), .val (.int p6), .val (.int (3 : Int32)), .val (.ref b2), .val (.ref b30), .val (.int sa), .val (.int ea), .val (.int nl), .val (.ref b241)] [(.ref b241)])) t → Steps p.tables e below G t := by
      intro t k
      refine K273 t ?_
      show Steps p.tables e below (T271.setTop (mkF m 186 #[.val (.int p1), .val (.int p2), .val (.int p3), .val (.int p4), .val (.int p5), .val (.int p6), .val (.int (3 : Int32)), .val (.ref b2), .val (.ref b30), .val (.int sa), .val (.int ea), .val (.int nl), .unset] [(.ref b241)])) _
      refine XS.astore X271.here hx rfl (hb hby at_186) rfl rfl (l' := #[.val (.int p1), .val (.int p2), .val (.int p3), .val (.int p4), .val (.int p5), .val (.int p6), .val (.int (3 : Int32)), .val (.ref b2), .val (.ref b30), .val (.int sa), .val (.int ea), .val (.int nl), .val (.ref b241)]) rfl ?_
      show Steps p.tables e below (T271.setTop (mkF m 188 #[.val (.int p1), .val (.int p2), .val (.int p3), .val (.int p4), .val (.int p5), .val (.int p6), .val (.int (3 : Int32)), .val (.ref b2), .val (.ref b30), .val (.int sa), .val (.int ea), .val (.int nl), .val (.ref b241)] [])) _
      refine XS.aload X271.here hx rfl (hb hby at_188) rfl rfl ?_
      show Steps p.tables e below (T271.setTop (mkF m 190 #[.val (.int p1), .val (.int p2), .val (.int p3), .val (.int p4), .val (.int p5), .val (.int p6), .val (.int (3 : Int32)), .val (.ref b2), .val (.ref b30), .val (.int sa), .val (.int ea), .val (.int nl), .val (.ref b241)] [(.ref b241)])) _
      exact k
    obtain ⟨cl275, Ar275, -, S275, M275, -, -⟩ := id Vb257
    have K276 : ∀ t, Steps p.tables e below (T271.setTop (mkF m 191 #[.val (.int p1), .val (.int p2), .val (.int p3), .val (.int p4), .val (.int p5), .val (.int p6), .val (.int (3 : Int32)), .val (.ref b2), .val (.ref b30), .val (.int sa), .val (.int ea), .val (.int nl), .val (.ref b241)] [(.int zb241)])) t → Steps p.tables e below G t := by
      intro t k
      refine K274 t ?_
      refine X271.arraylength hx (by rw [e271]; exact Ar275.1) (State.isArrayOf_alike hZ.alike Ar275.2.1) (g := (mkF m 190 #[.val (.int p1), .val (.int p2), .val (.int p3), .val (.int p4), .val (.int p5), .val (.int p6), .val (.int (3 : Int32)), .val (.ref b2), .val (.ref b30), .val (.int sa), .val (.int ea), .val (.int nl), .val (.ref b241)] [(.ref b241)])) rfl rfl (hb hby at_190) _ ?_
      rw [len_of S275 M275]
      exact k
    have K277 : ∀ t, Steps p.tables e below (T271.setTop (mkF m 198 #[.val (.int p1), .val (.int p2), .val (.int p3), .val (.int p4), .val (.int p5), .val (.int p6), .val (.int (3 : Int32)), .val (.ref b2), .val (.ref b30), .val (.int sa), .val (.int ea), .val (.int nl), .val (.ref b241)] [])) t → Steps p.tables e below G t := by
      intro t k
      refine K276 t ?_
      show Steps p.tables e below (T271.setTop (mkF m 191 #[.val (.int p1), .val (.int p2), .val (.int p3), .val (.int p4), .val (.int p5), .val (.int p6), .val (.int (3 : Int32)), .val (.ref b2), .val (.ref b30), .val (.int sa), .val (.int ea), .val (.int nl), .val (.ref b241)] [(.int zb241)])) _
      refine XS.iload X271.here hx rfl (hb hby at_191) rfl ?_
      show Steps p.tables e below (T271.setTop (mkF m 193 #[.val (.int p1), .val (.int p2), .val (.int p3), .val (.int p4), .val (.int p5), .val (.int p6), .val (.int (3 : Int32)), .val (.ref b2), .val (.ref b30), .val (.int sa), .val (.int ea), .val (.int nl), .val (.ref b241)] [(.int nl), (.int zb241)])) _
      refine XS.icmpYes X271.here hx rfl (pc0 := 193) (pc' := 198) rfl (hb hby at_193) rfl (flt (own_zl hB hz241.1 h_nl)).2.1 (by decide) (by decide) ?_
      show Steps p.tables e below (T271.setTop (mkF m 198 #[.val (.int p1), .val (.int p2), .val (.int p3), .val (.int p4), .val (.int p5), .val (.int p6), .val (.int (3 : Int32)), .val (.ref b2), .val (.ref b30), .val (.int sa), .val (.int ea), .val (.int nl), .val (.ref b241)] [])) _
      exact k
    have hf : ∀ j : Nat, j < (3 : Int32).toNatClampNeg → vs241.getD j (Value.int (0 : Int32)) = .int (nar .char (([(nar .char (p4.toUInt32.toUInt16.toUInt32.toInt32)), (nar .char (((p4.toUInt32 >>> ((16 : Int32) &&& 31).toUInt32).toInt32).toUInt32.toUInt16.toUInt32.toInt32)), (nar .char (p5.toUInt32.toUInt16.toUInt32.toInt32)), (nar .char (((p5.toUInt32 >>> ((16 : Int32) &&& 31).toUInt32).toInt32).toUInt32.toUInt16.toUInt32.toInt32))] : List Int32).getD j 0)) ∧ [(.int (nar .char (p4.toUInt32.toUInt16.toUInt32.toInt32))), (.int (nar .char (((p4.toUInt32 >>> ((16 : Int32) &&& 31).toUInt32).toInt32).toUInt32.toUInt16.toUInt32.toInt32))), (.int (nar .char (p5.toUInt32.toUInt16.toUInt32.toInt32))), (.int (nar .char (((p5.toUInt32 >>> ((16 : Int32) &&& 31).toUInt32).toInt32).toUInt32.toUInt16.toUInt32.toInt32)))].getD j (Value.int (0 : Int32)) = .int (([(nar .char (p4.toUInt32.toUInt16.toUInt32.toInt32)), (nar .char (((p4.toUInt32 >>> ((16 : Int32) &&& 31).toUInt32).toInt32).toUInt32.toUInt16.toUInt32.toInt32)), (nar .char (p5.toUInt32.toUInt16.toUInt32.toInt32)), (nar .char (((p5.toUInt32 >>> ((16 : Int32) &&& 31).toUInt32).toInt32).toUInt32.toUInt16.toUInt32.toInt32))] : List Int32).getD j 0) := fun j hj => by
      have hj' : j < 3 := hj
      match j, hj' with
      | 0, _ => exact ⟨ct248, rfl⟩
      | 1, _ => exact ⟨ct249, rfl⟩
      | 2, _ => exact ⟨ct250, rfl⟩
      | j + 3, h => exact absurd h (by omega)
    have K278 : ∀ t, Steps p.tables e below (T271.setTop (mkF m 209 #[.val (.int p1), .val (.int p2), .val (.int p3), .val (.int p4), .val (.int p5), .val (.int p6), .val (.int (3 : Int32)), .val (.ref b2), .val (.ref b30), .val (.int sa), .val (.int ea), .val (.int nl), .val (.ref b241)] [(.int ea), (.int sa), (.int nl), (.int (0 : Int32)), (.ref b2), (.ref b241)])) t → Steps p.tables e below G t := by
      intro t k
      refine K277 t ?_
      show Steps p.tables e below (T271.setTop (mkF m 198 #[.val (.int p1), .val (.int p2), .val (.int p3), .val (.int p4), .val (.int p5), .val (.int p6), .val (.int (3 : Int32)), .val (.ref b2), .val (.ref b30), .val (.int sa), .val (.int ea), .val (.int nl), .val (.ref b241)] [])) _
      refine XS.aload X271.here hx rfl (hb hby at_198) rfl rfl ?_
      show Steps p.tables e below (T271.setTop (mkF m 200 #[.val (.int p1), .val (.int p2), .val (.int p3), .val (.int p4), .val (.int p5), .val (.int p6), .val (.int (3 : Int32)), .val (.ref b2), .val (.ref b30), .val (.int sa), .val (.int ea), .val (.int nl), .val (.ref b241)] [(.ref b241)])) _
      refine XS.aload X271.here hx rfl (hb hby at_200) rfl rfl ?_
      show Steps p.tables e below (T271.setTop (mkF m 202 #[.val (.int p1), .val (.int p2), .val (.int p3), .val (.int p4), .val (.int p5), .val (.int p6), .val (.int (3 : Int32)), .val (.ref b2), .val (.ref b30), .val (.int sa), .val (.int ea), .val (.int nl), .val (.ref b241)] [(.ref b2), (.ref b241)])) _
      refine XS.iconst X271.here hx rfl (hb hby at_202) ?_
      show Steps p.tables e below (T271.setTop (mkF m 203 #[.val (.int p1), .val (.int p2), .val (.int p3), .val (.int p4), .val (.int p5), .val (.int p6), .val (.int (3 : Int32)), .val (.ref b2), .val (.ref b30), .val (.int sa), .val (.int ea), .val (.int nl), .val (.ref b241)] [(.int (0 : Int32)), (.ref b2), (.ref b241)])) _
      refine XS.iload X271.here hx rfl (hb hby at_203) rfl ?_
      show Steps p.tables e below (T271.setTop (mkF m 205 #[.val (.int p1), .val (.int p2), .val (.int p3), .val (.int p4), .val (.int p5), .val (.int p6), .val (.int (3 : Int32)), .val (.ref b2), .val (.ref b30), .val (.int sa), .val (.int ea), .val (.int nl), .val (.ref b241)] [(.int nl), (.int (0 : Int32)), (.ref b2), (.ref b241)])) _
      refine XS.iload X271.here hx rfl (hb hby at_205) rfl ?_
      show Steps p.tables e below (T271.setTop (mkF m 207 #[.val (.int p1), .val (.int p2), .val (.int p3), .val (.int p4), .val (.int p5), .val (.int p6), .val (.int (3 : Int32)), .val (.ref b2), .val (.ref b30), .val (.int sa), .val (.int ea), .val (.int nl), .val (.ref b241)] [(.int sa), (.int nl), (.int (0 : Int32)), (.ref b2), (.ref b241)])) _
      refine XS.iload X271.here hx rfl (hb hby at_207) rfl ?_
      show Steps p.tables e below (T271.setTop (mkF m 209 #[.val (.int p1), .val (.int p2), .val (.int p3), .val (.int p4), .val (.int p5), .val (.int p6), .val (.int (3 : Int32)), .val (.ref b2), .val (.ref b30), .val (.int sa), .val (.int ea), .val (.int nl), .val (.ref b241)] [(.int ea), (.int sa), (.int nl), (.int (0 : Int32)), (.ref b2), (.ref b241)])) _
      exact k
    obtain ⟨_, _, ⟨T279, L279, kk279, nn279⟩, -, X279, ⟨Lc279, hQ279, lq279, yq279, zq279⟩, st279⟩ := Jvm.LawKit.callS X271 hx (y := (⟨"org/arborlog/pattern/LineTextDeletePinLaw", "slotOk", "([C[CIIII)Z"⟩ : MethodName)) hown (mvT hZ (hw _ (List.mem_of_getElem? (i := 34) rfl))) (mvT hZ (hw _ (List.mem_of_getElem? (i := 35) rfl))) (mvT hZ (hw _ (List.mem_of_getElem? (i := 36) rfl))) (mvT hZ (hw _ (List.mem_of_getElem? (i := 37) rfl))) (by decide) (backOf (W := 0) (rm6 l Z a0 hw [] b241 b2 (0 : Int32) nl sa ea kb241 kn2 zb241 vs257 [(.int (nar .char (p4.toUInt32.toUInt16.toUInt32.toInt32))), (.int (nar .char (((p4.toUInt32 >>> ((16 : Int32) &&& 31).toUInt32).toInt32).toUInt32.toUInt16.toUInt32.toInt32))), (.int (nar .char (p5.toUInt32.toUInt16.toUInt32.toInt32))), (.int (nar .char (((p5.toUInt32 >>> ((16 : Int32) &&& 31).toUInt32).toInt32).toUInt32.toUInt16.toUInt32.toInt32)))] T257.heap n0 Z261 Vb257 f259 (own_slot 0 rfl (by decide) hB hz241.1 h_nl hA257 hB257 hf)) hZ (hw _ (List.mem_of_getElem? (i := 37) rfl)) (hw _ (List.mem_of_getElem? (i := 36) rfl)) (by decide) (by decide)) (g := (mkF m 209 #[.val (.int p1), .val (.int p2), .val (.int p3), .val (.int p4), .val (.int p5), .val (.int p6), .val (.int (3 : Int32)), .val (.ref b2), .val (.ref b30), .val (.int sa), .val (.int ea), .val (.int nl), .val (.ref b241)] [(.int ea), (.int sa), (.int nl), (.int (0 : Int32)), (.ref b2), (.ref b241)])) rfl (by rw [hml]; rfl) (argsL := [(.ref b241), (.ref b2), (.int (0 : Int32)), (.int nl), (.int sa), (.int ea)]) (rest := []) (lenOf pd_7 rfl) rfl (by show 2 * 0 + _ ≤ _; exact Nat.le_of_eq rfl) (hb hby at_209) (fun _ _ => ⟨rfl, e271, (by decide : 6 + 0 ≤ _), (by decide : 44 + 0 ≤ _)⟩)
    dsimp only [Pt.U, Pt.locs, Pt.cells, Pt.slots] at X279 lq279 yq279 zq279 st279 hQ279
    subst lq279 yq279 zq279
    obtain ⟨rfl, Nq279, e279⟩ := hQ279
    have N280 := Fr.app N272 Nq279
    have K281 : ∀ t, Steps p.tables e below (T279.setTop (mkF m 212 #[.val (.int p1), .val (.int p2), .val (.int p3), .val (.int p4), .val (.int p5), .val (.int p6), .val (.int (3 : Int32)), .val (.ref b2), .val (.ref b30), .val (.int sa), .val (.int ea), .val (.int nl), .val (.ref b241)] [(.int (1 : Int32))])) t → Steps p.tables e below G t := fun t k => K278 t (st279 _ k)
    have K282 : ∀ t, Steps p.tables e below (T279.setTop (mkF m 226 #[.val (.int p1), .val (.int p2), .val (.int p3), .val (.int p4), .val (.int p5), .val (.int p6), .val (.int (3 : Int32)), .val (.ref b2), .val (.ref b30), .val (.int sa), .val (.int ea), .val (.int nl), .val (.ref b241)] [(.int ea), (.int sa), (.int nl), (.int (1 : Int32)), (.ref b2), (.ref b241)])) t → Steps p.tables e below G t := by
      intro t k
      refine K281 t ?_
      show Steps p.tables e below (T279.setTop (mkF m 212 #[.val (.int p1), .val (.int p2), .val (.int p3), .val (.int p4), .val (.int p5), .val (.int p6), .val (.int (3 : Int32)), .val (.ref b2), .val (.ref b30), .val (.int sa), .val (.int ea), .val (.int nl), .val (.ref b241)] [(.int (1 : Int32))])) _
      refine XS.ifNo X279.here hx rfl (hb hby at_212) rfl ((if0 _ _).trans (feq (by decide)).1) ?_
      show Steps p.tables e below (T279.setTop (mkF m 215 #[.val (.int p1), .val (.int p2), .val (.int p3), .val (.int p4), .val (.int p5), .val (.int p6), .val (.int (3 : Int32)), .val (.ref b2), .val (.ref b30), .val (.int sa), .val (.int ea), .val (.int nl), .val (.ref b241)] [])) _
      refine XS.aload X279.here hx rfl (hb hby at_215) rfl rfl ?_
      show Steps p.tables e below (T279.setTop (mkF m 217 #[.val (.int p1), .val (.int p2), .val (.int p3), .val (.int p4), .val (.int p5), .val (.int p6), .val (.int (3 : Int32)), .val (.ref b2), .val (.ref b30), .val (.int sa), .val (.int ea), .val (.int nl), .val (.ref b241)] [(.ref b241)])) _
      refine XS.aload X279.here hx rfl (hb hby at_217) rfl rfl ?_
      show Steps p.tables e below (T279.setTop (mkF m 219 #[.val (.int p1), .val (.int p2), .val (.int p3), .val (.int p4), .val (.int p5), .val (.int p6), .val (.int (3 : Int32)), .val (.ref b2), .val (.ref b30), .val (.int sa), .val (.int ea), .val (.int nl), .val (.ref b241)] [(.ref b2), (.ref b241)])) _
      refine XS.iconst X279.here hx rfl (hb hby at_219) ?_
      show Steps p.tables e below (T279.setTop (mkF m 220 #[.val (.int p1), .val (.int p2), .val (.int p3), .val (.int p4), .val (.int p5), .val (.int p6), .val (.int (3 : Int32)), .val (.ref b2), .val (.ref b30), .val (.int sa), .val (.int ea), .val (.int nl), .val (.ref b241)] [(.int (1 : Int32)), (.ref b2), (.ref b241)])) _
      refine XS.iload X279.here hx rfl (hb hby at_220) rfl ?_
      show Steps p.tables e below (T279.setTop (mkF m 222 #[.val (.int p1), .val (.int p2), .val (.int p3), .val (.int p4), .val (.int p5), .val (.int p6), .val (.int (3 : Int32)), .val (.ref b2), .val (.ref b30), .val (.int sa), .val (.int ea), .val (.int nl), .val (.ref b241)] [(.int nl), (.int (1 : Int32)), (.ref b2), (.ref b241)])) _
      refine XS.iload X279.here hx rfl (hb hby at_222) rfl ?_
      show Steps p.tables e below (T279.setTop (mkF m 224 #[.val (.int p1), .val (.int p2), .val (.int p3), .val (.int p4), .val (.int p5), .val (.int p6), .val (.int (3 : Int32)), .val (.ref b2), .val (.ref b30), .val (.int sa), .val (.int ea), .val (.int nl), .val (.ref b241)] [(.int sa), (.int nl), (.int (1 : Int32)), (.ref b2), (.ref b241)])) _
      refine XS.iload X279.here hx rfl (hb hby at_224) rfl ?_
      show Steps p.tables e below (T279.setTop (mkF m 226 #[.val (.int p1), .val (.int p2), .val (.int p3), .val (.int p4), .val (.int p5), .val (.int p6), .val (.int (3 : Int32)), .val (.ref b2), .val (.ref b30), .val (.int sa), .val (.int ea), .val (.int nl), .val (.ref b241)] [(.int ea), (.int sa), (.int nl), (.int (1 : Int32)), (.ref b2), (.ref b241)])) _
      exact k
    obtain ⟨_, _, ⟨T283, L283, kk283, nn283⟩, -, X283, ⟨Lc283, hQ283, lq283, yq283, zq283⟩, st283⟩ := Jvm.LawKit.callS X279 hx (y := (⟨"org/arborlog/pattern/LineTextDeletePinLaw", "slotOk", "([C[CIIII)Z"⟩ : MethodName)) hown (mvT hZ (hw _ (List.mem_of_getElem? (i := 34) rfl))) (mvT hZ (hw _ (List.mem_of_getElem? (i := 35) rfl))) (mvT hZ (hw _ (List.mem_of_getElem? (i := 36) rfl))) (mvT hZ (hw _ (List.mem_of_getElem? (i := 37) rfl))) (by decide) (backOf (W := 0) (rm6 l Z a0 hw [] b241 b2 (1 : Int32) nl sa ea kb241 kn2 zb241 vs257 [(.int (nar .char (p4.toUInt32.toUInt16.toUInt32.toInt32))), (.int (nar .char (((p4.toUInt32 >>> ((16 : Int32) &&& 31).toUInt32).toInt32).toUInt32.toUInt16.toUInt32.toInt32))), (.int (nar .char (p5.toUInt32.toUInt16.toUInt32.toInt32))), (.int (nar .char (((p5.toUInt32 >>> ((16 : Int32) &&& 31).toUInt32).toInt32).toUInt32.toUInt16.toUInt32.toInt32)))] T257.heap n0 Z261 Vb257 f259 (own_slot 1 rfl (by decide) hB hz241.1 h_nl hA257 hB257 hf)) hZ (hw _ (List.mem_of_getElem? (i := 37) rfl)) (hw _ (List.mem_of_getElem? (i := 36) rfl)) (by decide) (by decide)) (g := (mkF m 226 #[.val (.int p1), .val (.int p2), .val (.int p3), .val (.int p4), .val (.int p5), .val (.int p6), .val (.int (3 : Int32)), .val (.ref b2), .val (.ref b30), .val (.int sa), .val (.int ea), .val (.int nl), .val (.ref b241)] [(.int ea), (.int sa), (.int nl), (.int (1 : Int32)), (.ref b2), (.ref b241)])) rfl (by rw [hml]; rfl) (argsL := [(.ref b241), (.ref b2), (.int (1 : Int32)), (.int nl), (.int sa), (.int ea)]) (rest := []) (lenOf pd_7 rfl) rfl (by show 2 * 0 + _ ≤ _; exact Nat.le_of_eq rfl) (hb hby at_226) (fun _ _ => ⟨rfl, e279, (by decide : 6 + 0 ≤ _), (by decide : 44 + 0 ≤ _)⟩)
    dsimp only [Pt.U, Pt.locs, Pt.cells, Pt.slots] at X283 lq283 yq283 zq283 st283 hQ283
    subst lq283 yq283 zq283
    obtain ⟨rfl, Nq283, e283⟩ := hQ283
    have N284 := Fr.app N280 Nq283
    have K285 : ∀ t, Steps p.tables e below (T283.setTop (mkF m 229 #[.val (.int p1), .val (.int p2), .val (.int p3), .val (.int p4), .val (.int p5), .val (.int p6), .val (.int (3 : Int32)), .val (.ref b2), .val (.ref b30), .val (.int sa), .val (.int ea), .val (.int nl), .val (.ref b241)] [(.int (1 : Int32))])) t → Steps p.tables e below G t := fun t k => K282 t (st283 _ k)
    have K286 : ∀ t, Steps p.tables e below (T283.setTop (mkF m 243 #[.val (.int p1), .val (.int p2), .val (.int p3), .val (.int p4), .val (.int p5), .val (.int p6), .val (.int (3 : Int32)), .val (.ref b2), .val (.ref b30), .val (.int sa), .val (.int ea), .val (.int nl), .val (.ref b241)] [(.int ea), (.int sa), (.int nl), (.int (2 : Int32)), (.ref b2), (.ref b241)])) t → Steps p.tables e below G t := by
      intro t k
      refine K285 t ?_
      show Steps p.tables e below (T283.setTop (mkF m 229 #[.val (.int p1), .val (.int p2), .val (.int p3), .val (.int p4), .val (.int p5), .val (.int p6), .val (.int (3 : Int32)), .val (.ref b2), .val (.ref b30), .val (.int sa), .val (.int ea), .val (.int nl), .val (.ref b241)] [(.int (1 : Int32))])) _
      refine XS.ifNo X283.here hx rfl (hb hby at_229) rfl ((if0 _ _).trans (feq (by decide)).1) ?_
      show Steps p.tables e below (T283.setTop (mkF m 232 #[.val (.int p1), .val (.int p2), .val (.int p3), .val (.int p4), .val (.int p5), .val (.int p6), .val (.int (3 : Int32)), .val (.ref b2), .val (.ref b30), .val (.int sa), .val (.int ea), .val (.int nl), .val (.ref b241)] [])) _
      refine XS.aload X283.here hx rfl (hb hby at_232) rfl rfl ?_
      show Steps p.tables e below (T283.setTop (mkF m 234 #[.val (.int p1), .val (.int p2), .val (.int p3), .val (.int p4), .val (.int p5), .val (.int p6), .val (.int (3 : Int32)), .val (.ref b2), .val (.ref b30), .val (.int sa), .val (.int ea), .val (.int nl), .val (.ref b241)] [(.ref b241)])) _
      refine XS.aload X283.here hx rfl (hb hby at_234) rfl rfl ?_
      show Steps p.tables e below (T283.setTop (mkF m 236 #[.val (.int p1), .val (.int p2), .val (.int p3), .val (.int p4), .val (.int p5), .val (.int p6), .val (.int (3 : Int32)), .val (.ref b2), .val (.ref b30), .val (.int sa), .val (.int ea), .val (.int nl), .val (.ref b241)] [(.ref b2), (.ref b241)])) _
      refine XS.iconst X283.here hx rfl (hb hby at_236) ?_
      show Steps p.tables e below (T283.setTop (mkF m 237 #[.val (.int p1), .val (.int p2), .val (.int p3), .val (.int p4), .val (.int p5), .val (.int p6), .val (.int (3 : Int32)), .val (.ref b2), .val (.ref b30), .val (.int sa), .val (.int ea), .val (.int nl), .val (.ref b241)] [(.int (2 : Int32)), (.ref b2), (.ref b241)])) _
      refine XS.iload X283.here hx rfl (hb hby at_237) rfl ?_
      show Steps p.tables e below (T283.setTop (mkF m 239 #[.val (.int p1), .val (.int p2), .val (.int p3), .val (.int p4), .val (.int p5), .val (.int p6), .val (.int (3 : Int32)), .val (.ref b2), .val (.ref b30), .val (.int sa), .val (.int ea), .val (.int nl), .val (.ref b241)] [(.int nl), (.int (2 : Int32)), (.ref b2), (.ref b241)])) _
      refine XS.iload X283.here hx rfl (hb hby at_239) rfl ?_
      show Steps p.tables e below (T283.setTop (mkF m 241 #[.val (.int p1), .val (.int p2), .val (.int p3), .val (.int p4), .val (.int p5), .val (.int p6), .val (.int (3 : Int32)), .val (.ref b2), .val (.ref b30), .val (.int sa), .val (.int ea), .val (.int nl), .val (.ref b241)] [(.int sa), (.int nl), (.int (2 : Int32)), (.ref b2), (.ref b241)])) _
      refine XS.iload X283.here hx rfl (hb hby at_241) rfl ?_
      show Steps p.tables e below (T283.setTop (mkF m 243 #[.val (.int p1), .val (.int p2), .val (.int p3), .val (.int p4), .val (.int p5), .val (.int p6), .val (.int (3 : Int32)), .val (.ref b2), .val (.ref b30), .val (.int sa), .val (.int ea), .val (.int nl), .val (.ref b241)] [(.int ea), (.int sa), (.int nl), (.int (2 : Int32)), (.ref b2), (.ref b241)])) _
      exact k
    obtain ⟨_, _, ⟨T287, L287, kk287, nn287⟩, -, X287, ⟨Lc287, hQ287, lq287, yq287, zq287⟩, st287⟩ := Jvm.LawKit.callS X283 hx (y := (⟨"org/arborlog/pattern/LineTextDeletePinLaw", "slotOk", "([C[CIIII)Z"⟩ : MethodName)) hown (mvT hZ (hw _ (List.mem_of_getElem? (i := 34) rfl))) (mvT hZ (hw _ (List.mem_of_getElem? (i := 35) rfl))) (mvT hZ (hw _ (List.mem_of_getElem? (i := 36) rfl))) (mvT hZ (hw _ (List.mem_of_getElem? (i := 37) rfl))) (by decide) (backOf (W := 0) (rm6 l Z a0 hw [] b241 b2 (2 : Int32) nl sa ea kb241 kn2 zb241 vs257 [(.int (nar .char (p4.toUInt32.toUInt16.toUInt32.toInt32))), (.int (nar .char (((p4.toUInt32 >>> ((16 : Int32) &&& 31).toUInt32).toInt32).toUInt32.toUInt16.toUInt32.toInt32))), (.int (nar .char (p5.toUInt32.toUInt16.toUInt32.toInt32))), (.int (nar .char (((p5.toUInt32 >>> ((16 : Int32) &&& 31).toUInt32).toInt32).toUInt32.toUInt16.toUInt32.toInt32)))] T257.heap n0 Z261 Vb257 f259 (own_slot 2 rfl (by decide) hB hz241.1 h_nl hA257 hB257 hf)) hZ (hw _ (List.mem_of_getElem? (i := 37) rfl)) (hw _ (List.mem_of_getElem? (i := 36) rfl)) (by decide) (by decide)) (g := (mkF m 243 #[.val (.int p1), .val (.int p2), .val (.int p3), .val (.int p4), .val (.int p5), .val (.int p6), .val (.int (3 : Int32)), .val (.ref b2), .val (.ref b30), .val (.int sa), .val (.int ea), .val (.int nl), .val (.ref b241)] [(.int ea), (.int sa), (.int nl), (.int (2 : Int32)), (.ref b2), (.ref b241)])) rfl (by rw [hml]; rfl) (argsL := [(.ref b241), (.ref b2), (.int (2 : Int32)), (.int nl), (.int sa), (.int ea)]) (rest := []) (lenOf pd_7 rfl) rfl (by show 2 * 0 + _ ≤ _; exact Nat.le_of_eq rfl) (hb hby at_243) (fun _ _ => ⟨rfl, e283, (by decide : 6 + 0 ≤ _), (by decide : 44 + 0 ≤ _)⟩)
    dsimp only [Pt.U, Pt.locs, Pt.cells, Pt.slots] at X287 lq287 yq287 zq287 st287 hQ287
    subst lq287 yq287 zq287
    obtain ⟨rfl, Nq287, e287⟩ := hQ287
    have N288 := Fr.app N284 Nq287
    have K289 : ∀ t, Steps p.tables e below (T287.setTop (mkF m 246 #[.val (.int p1), .val (.int p2), .val (.int p3), .val (.int p4), .val (.int p5), .val (.int p6), .val (.int (3 : Int32)), .val (.ref b2), .val (.ref b30), .val (.int sa), .val (.int ea), .val (.int nl), .val (.ref b241)] [(.int (1 : Int32))])) t → Steps p.tables e below G t := fun t k => K286 t (st287 _ k)
    have K290 : ∀ t, Steps p.tables e below (T287.setTop (mkF m 260 #[.val (.int p1), .val (.int p2), .val (.int p3), .val (.int p4), .val (.int p5), .val (.int p6), .val (.int (3 : Int32)), .val (.ref b2), .val (.ref b30), .val (.int sa), .val (.int ea), .val (.int nl), .val (.ref b241)] [(.int ea), (.int sa), (.int nl), (.int (3 : Int32)), (.ref b2), (.ref b241)])) t → Steps p.tables e below G t := by
      intro t k
      refine K289 t ?_
      show Steps p.tables e below (T287.setTop (mkF m 246 #[.val (.int p1), .val (.int p2), .val (.int p3), .val (.int p4), .val (.int p5), .val (.int p6), .val (.int (3 : Int32)), .val (.ref b2), .val (.ref b30), .val (.int sa), .val (.int ea), .val (.int nl), .val (.ref b241)] [(.int (1 : Int32))])) _
      refine XS.ifNo X287.here hx rfl (hb hby at_246) rfl ((if0 _ _).trans (feq (by decide)).1) ?_
      show Steps p.tables e below (T287.setTop (mkF m 249 #[.val (.int p1), .val (.int p2), .val (.int p3), .val (.int p4), .val (.int p5), .val (.int p6), .val (.int (3 : Int32)), .val (.ref b2), .val (.ref b30), .val (.int sa), .val (.int ea), .val (.int nl), .val (.ref b241)] [])) _
      refine XS.aload X287.here hx rfl (hb hby at_249) rfl rfl ?_
      show Steps p.tables e below (T287.setTop (mkF m 251 #[.val (.int p1), .val (.int p2), .val (.int p3), .val (.int p4), .val (.int p5), .val (.int p6), .val (.int (3 : Int32)), .val (.ref b2), .val (.ref b30), .val (.int sa), .val (.int ea), .val (.int nl), .val (.ref b241)] [(.ref b241)])) _
      refine XS.aload X287.here hx rfl (hb hby at_251) rfl rfl ?_
      show Steps p.tables e below (T287.setTop (mkF m 253 #[.val (.int p1), .val (.int p2), .val (.int p3), .val (.int p4), .val (.int p5), .val (.int p6), .val (.int (3 : Int32)), .val (.ref b2), .val (.ref b30), .val (.int sa), .val (.int ea), .val (.int nl), .val (.ref b241)] [(.ref b2), (.ref b241)])) _
      refine XS.iconst X287.here hx rfl (hb hby at_253) ?_
      show Steps p.tables e below (T287.setTop (mkF m 254 #[.val (.int p1), .val (.int p2), .val (.int p3), .val (.int p4), .val (.int p5), .val (.int p6), .val (.int (3 : Int32)), .val (.ref b2), .val (.ref b30), .val (.int sa), .val (.int ea), .val (.int nl), .val (.ref b241)] [(.int (3 : Int32)), (.ref b2), (.ref b241)])) _
      refine XS.iload X287.here hx rfl (hb hby at_254) rfl ?_
      show Steps p.tables e below (T287.setTop (mkF m 256 #[.val (.int p1), .val (.int p2), .val (.int p3), .val (.int p4), .val (.int p5), .val (.int p6), .val (.int (3 : Int32)), .val (.ref b2), .val (.ref b30), .val (.int sa), .val (.int ea), .val (.int nl), .val (.ref b241)] [(.int nl), (.int (3 : Int32)), (.ref b2), (.ref b241)])) _
      refine XS.iload X287.here hx rfl (hb hby at_256) rfl ?_
      show Steps p.tables e below (T287.setTop (mkF m 258 #[.val (.int p1), .val (.int p2), .val (.int p3), .val (.int p4), .val (.int p5), .val (.int p6), .val (.int (3 : Int32)), .val (.ref b2), .val (.ref b30), .val (.int sa), .val (.int ea), .val (.int nl), .val (.ref b241)] [(.int sa), (.int nl), (.int (3 : Int32)), (.ref b2), (.ref b241)])) _
      refine XS.iload X287.here hx rfl (hb hby at_258) rfl ?_
      show Steps p.tables e below (T287.setTop (mkF m 260 #[.val (.int p1), .val (.int p2), .val (.int p3), .val (.int p4), .val (.int p5), .val (.int p6), .val (.int (3 : Int32)), .val (.ref b2), .val (.ref b30), .val (.int sa), .val (.int ea), .val (.int nl), .val (.ref b241)] [(.int ea), (.int sa), (.int nl), (.int (3 : Int32)), (.ref b2), (.ref b241)])) _
      exact k
    obtain ⟨_, _, ⟨T291, L291, kk291, nn291⟩, -, X291, ⟨Lc291, hQ291, lq291, yq291, zq291⟩, st291⟩ := Jvm.LawKit.callS X287 hx (y := (⟨"org/arborlog/pattern/LineTextDeletePinLaw", "slotOk", "([C[CIIII)Z"⟩ : MethodName)) hown (mvT hZ (hw _ (List.mem_of_getElem? (i := 34) rfl))) (mvT hZ (hw _ (List.mem_of_getElem? (i := 35) rfl))) (mvT hZ (hw _ (List.mem_of_getElem? (i := 36) rfl))) (mvT hZ (hw _ (List.mem_of_getElem? (i := 37) rfl))) (by decide) (backOf (W := 0) (rm6 l Z a0 hw [] b241 b2 (3 : Int32) nl sa ea kb241 kn2 zb241 vs257 [(.int (nar .char (p4.toUInt32.toUInt16.toUInt32.toInt32))), (.int (nar .char (((p4.toUInt32 >>> ((16 : Int32) &&& 31).toUInt32).toInt32).toUInt32.toUInt16.toUInt32.toInt32))), (.int (nar .char (p5.toUInt32.toUInt16.toUInt32.toInt32))), (.int (nar .char (((p5.toUInt32 >>> ((16 : Int32) &&& 31).toUInt32).toInt32).toUInt32.toUInt16.toUInt32.toInt32)))] T257.heap n0 Z261 Vb257 f259 (own_slot 3 rfl (by decide) hB hz241.1 h_nl hA257 hB257 hf)) hZ (hw _ (List.mem_of_getElem? (i := 37) rfl)) (hw _ (List.mem_of_getElem? (i := 36) rfl)) (by decide) (by decide)) (g := (mkF m 260 #[.val (.int p1), .val (.int p2), .val (.int p3), .val (.int p4), .val (.int p5), .val (.int p6), .val (.int (3 : Int32)), .val (.ref b2), .val (.ref b30), .val (.int sa), .val (.int ea), .val (.int nl), .val (.ref b241)] [(.int ea), (.int sa), (.int nl), (.int (3 : Int32)), (.ref b2), (.ref b241)])) rfl (by rw [hml]; rfl) (argsL := [(.ref b241), (.ref b2), (.int (3 : Int32)), (.int nl), (.int sa), (.int ea)]) (rest := []) (lenOf pd_7 rfl) rfl (by show 2 * 0 + _ ≤ _; exact Nat.le_of_eq rfl) (hb hby at_260) (fun _ _ => ⟨rfl, e287, (by decide : 6 + 0 ≤ _), (by decide : 44 + 0 ≤ _)⟩)
    dsimp only [Pt.U, Pt.locs, Pt.cells, Pt.slots] at X291 lq291 yq291 zq291 st291 hQ291
    subst lq291 yq291 zq291
    obtain ⟨rfl, Nq291, e291⟩ := hQ291
    have N292 := Fr.app N288 Nq291
    have K293 : ∀ t, Steps p.tables e below (T291.setTop (mkF m 263 #[.val (.int p1), .val (.int p2), .val (.int p3), .val (.int p4), .val (.int p5), .val (.int p6), .val (.int (3 : Int32)), .val (.ref b2), .val (.ref b30), .val (.int sa), .val (.int ea), .val (.int nl), .val (.ref b241)] [(.int (1 : Int32))])) t → Steps p.tables e below G t := fun t k => K290 t (st291 _ k)
    obtain ⟨fs, hr, hrun, hended, hW, hsame⟩ := X291.leave (v := some (.int (1 : Int32))) (fun h => by rw [Bd.returns] at h; cases h)
    have KF := K293
    rw [hG] at KF
    refine ⟨_, _, KF _ ?_, hrun, hended, _, _, rfl, ?_, ⟨_, rfl⟩, hW, hsame.mono (by decide) (by decide)⟩
    · show Steps p.tables e below (T291.setTop (mkF m 263 #[.val (.int p1), .val (.int p2), .val (.int p3), .val (.int p4), .val (.int p5), .val (.int p6), .val (.int (3 : Int32)), .val (.ref b2), .val (.ref b30), .val (.int sa), .val (.int ea), .val (.int nl), .val (.ref b241)] [(.int (1 : Int32))])) _
      refine XS.ifNo X291.here hx rfl (hb hby at_263) rfl ((if0 _ _).trans (feq (by decide)).1) ?_
      show Steps p.tables e below (T291.setTop (mkF m 266 #[.val (.int p1), .val (.int p2), .val (.int p3), .val (.int p4), .val (.int p5), .val (.int p6), .val (.int (3 : Int32)), .val (.ref b2), .val (.ref b30), .val (.int sa), .val (.int ea), .val (.int nl), .val (.ref b241)] [])) _
      refine XS.iconst X291.here hx rfl (hb hby at_266) ?_
      show Steps p.tables e below (T291.setTop (mkF m 267 #[.val (.int p1), .val (.int p2), .val (.int p3), .val (.int p4), .val (.int p5), .val (.int p6), .val (.int (3 : Int32)), .val (.ref b2), .val (.ref b30), .val (.int sa), .val (.int ea), .val (.int nl), .val (.ref b241)] [(.int (1 : Int32))])) _
      refine XS.goto X291.here hx rfl (pc0 := 267) (pc' := 271) rfl (hb hby at_267) (by decide) (by decide) ?_
      show Steps p.tables e below (T291.setTop (mkF m 271 #[.val (.int p1), .val (.int p2), .val (.int p3), .val (.int p4), .val (.int p5), .val (.int p6), .val (.int (3 : Int32)), .val (.ref b2), .val (.ref b30), .val (.int sa), .val (.int ea), .val (.int nl), .val (.ref b241)] [(.int (1 : Int32))])) _
      exact retN X291 hx (t := .boolean) Bd.returns (by simp) (hb hby at_271) hr
    · show Q0 n0 _ T291.heap _
      rw [e291]
      exact ⟨rfl, N292⟩
  · have K294 : ∀ t, Steps p.tables e below (T38.setTop (mkF m 59 #[.val (.int p1), .val (.int p2), .val (.int p3), .val (.int p4), .val (.int p5), .val (.int p6), .val (.int (4 : Int32)), .val (.ref b2), .val (.ref b30), .unset, .unset, .unset, .unset] [])) t → Steps p.tables e below G t := by have q := K45; rw [hN] at q; exact q
    have K295 : ∀ t, Steps p.tables e below (T38.setTop (mkF m 69 #[.val (.int p1), .val (.int p2), .val (.int p3), .val (.int p4), .val (.int p5), .val (.int p6), .val (.int (4 : Int32)), .val (.ref b2), .val (.ref b30), .unset, .unset, .unset, .unset] [(.int (0 : Int32)), (.ref b2), (.ref b30)])) t → Steps p.tables e below G t := by
      intro t k
      refine K294 t ?_
      show Steps p.tables e below (T38.setTop (mkF m 59 #[.val (.int p1), .val (.int p2), .val (.int p3), .val (.int p4), .val (.int p5), .val (.int p6), .val (.int (4 : Int32)), .val (.ref b2), .val (.ref b30), .unset, .unset, .unset, .unset] [])) _
      refine XS.iload X38.here hx rfl (hb hby at_59) rfl ?_
      show Steps p.tables e below (T38.setTop (mkF m 61 #[.val (.int p1), .val (.int p2), .val (.int p3), .val (.int p4), .val (.int p5), .val (.int p6), .val (.int (4 : Int32)), .val (.ref b2), .val (.ref b30), .unset, .unset, .unset, .unset] [(.int (4 : Int32))])) _
      refine XS.ifNo X38.here hx rfl (hb hby at_61) rfl ((if0 _ _).trans (tlt (by decide)).2.2.2) ?_
      show Steps p.tables e below (T38.setTop (mkF m 64 #[.val (.int p1), .val (.int p2), .val (.int p3), .val (.int p4), .val (.int p5), .val (.int p6), .val (.int (4 : Int32)), .val (.ref b2), .val (.ref b30), .unset, .unset, .unset, .unset] [])) _
      refine XS.aload X38.here hx rfl (hb hby at_64) rfl rfl ?_
      show Steps p.tables e below (T38.setTop (mkF m 66 #[.val (.int p1), .val (.int p2), .val (.int p3), .val (.int p4), .val (.int p5), .val (.int p6), .val (.int (4 : Int32)), .val (.ref b2), .val (.ref b30), .unset, .unset, .unset, .unset] [(.ref b30)])) _
      refine XS.aload X38.here hx rfl (hb hby at_66) rfl rfl ?_
      show Steps p.tables e below (T38.setTop (mkF m 68 #[.val (.int p1), .val (.int p2), .val (.int p3), .val (.int p4), .val (.int p5), .val (.int p6), .val (.int (4 : Int32)), .val (.ref b2), .val (.ref b30), .unset, .unset, .unset, .unset] [(.ref b2), (.ref b30)])) _
      refine XS.iconst X38.here hx rfl (hb hby at_68) ?_
      show Steps p.tables e below (T38.setTop (mkF m 69 #[.val (.int p1), .val (.int p2), .val (.int p3), .val (.int p4), .val (.int p5), .val (.int p6), .val (.int (4 : Int32)), .val (.ref b2), .val (.ref b30), .unset, .unset, .unset, .unset] [(.int (0 : Int32)), (.ref b2), (.ref b30)])) _
      exact k
    obtain ⟨cl296, Ar296, qc296, S296, M296, Ha296, Ga296⟩ := id f40
    have hin296 : ¬ ((0 : Int32) < 0 ∨ cl296.slots.size ≤ ((0 : Int32)).toNatClampNeg) := inb_of S296 ⟨by decide, by decide⟩
    have hat296 : cl296.slots[((0 : Int32)).toNatClampNeg]? = some (.int (nar .char (p4.toUInt32.toUInt16.toUInt32.toInt32))) := Ha296.at hin296 rfl
    have K297 : ∀ t, Steps p.tables e below (T38.setTop (mkF m 70 #[.val (.int p1), .val (.int p2), .val (.int p3), .val (.int p4), .val (.int p5), .val (.int p6), .val (.int (4 : Int32)), .val (.ref b2), .val (.ref b30), .unset, .unset, .unset, .unset] [(.int (nar .char (p4.toUInt32.toUInt16.toUInt32.toInt32))), (.ref b30)])) t → Steps p.tables e below G t := fun t k => K295 t (X38.caload hx (j := (0 : Int32)) (v := (.int (nar .char (p4.toUInt32.toUInt16.toUInt32.toInt32)))) Ar296.1 (State.isArrayOf_alike hZ.alike Ar296.2.1) Ar296.2.2 hin296 hat296 (g := (mkF m 69 #[.val (.int p1), .val (.int p2), .val (.int p3), .val (.int p4), .val (.int p5), .val (.int p6), .val (.int (4 : Int32)), .val (.ref b2), .val (.ref b30), .unset, .unset, .unset, .unset] [(.int (0 : Int32)), (.ref b2), (.ref b30)])) rfl rfl (hb hby at_69) _ k)
    obtain ⟨cq298, kq298, q298a, q298b, q298c⟩ := isOf hZ rfl E38'
    obtain ⟨_, _, ⟨T298, L298, kk298, nn298⟩, -, X298, ⟨Lc298, hQ298, lq298, yq298, zq298⟩, st298⟩ := X38.virtualBack hx (y := (⟨"org/arborlog/pattern/LineText", "append", "(C)Lorg/arborlog/pattern/LineText;"⟩ : MethodName)) (z := (⟨"org/arborlog/pattern/LineText", "append", "(C)Lorg/arborlog/pattern/LineText;"⟩ : MethodName)) hown (mvT hZ (hw _ (List.mem_of_getElem? (i := 38) rfl))) (mvT hZ (hw _ (List.mem_of_getElem? (i := 39) rfl))) (notFace_of_selects (args := #[]) (mvT hZ (hw _ (List.mem_of_getElem? (i := 41) rfl)))) (mvT hZ (hw _ (List.mem_of_getElem? (i := 41) rfl))) (mvT hZ (hw _ (List.mem_of_getElem? (i := 40) rfl))) (by decide) (backOf (W := 0) (rm7 l Z a0 hw [] b30 (nar .char (p4.toUInt32.toUInt16.toUInt32.toInt32)) b38 kb38 (p6 &&& (7 : Int32)) (0 : Int32) [] T38.heap n0 Z42 E38' Fc38 Fl38 Vb38 ne_b30_b38 g_b30 g_b38 ⟨by decide, by decide⟩ hc7.1 hc7.2.2) hZ (hw _ (List.mem_of_getElem? (i := 42) rfl)) (hw _ (List.mem_of_getElem? (i := 4) rfl)) (by decide) (by decide)) q298a q298c (g := (mkF m 70 #[.val (.int p1), .val (.int p2), .val (.int p3), .val (.int p4), .val (.int p5), .val (.int p6), .val (.int (4 : Int32)), .val (.ref b2), .val (.ref b30), .unset, .unset, .unset, .unset] [(.int (nar .char (p4.toUInt32.toUInt16.toUInt32.toInt32))), (.ref b30)])) rfl (by rw [hml]; rfl) (Steps.refl _) (argsL := [(.int (nar .char (p4.toUInt32.toUInt16.toUInt32.toInt32)))]) (rest := []) (lenOf pd_8 rfl) rfl (by show 2 * 0 + _ ≤ _; exact Nat.le_of_eq rfl) (hb hby at_70) (fun _ _ => ⟨rfl, rfl, (by decide : 3 + 1 ≤ _), (by decide : 14 + 10 ≤ _)⟩)
    dsimp only [Pt.U, Pt.locs, Pt.cells, Pt.slots] at X298 lq298 yq298 zq298 st298 hQ298
    subst lq298 yq298 zq298
    obtain ⟨b298, kb298, zb298, vs298, rfl, Nq298, K298, ob298, E298', Fc298, Fl298, Vb298, hz298, hc298, hd298⟩ := hQ298
    have N299 := Fr.app N39 Nq298
    have gb298 : n0 ≤ b298 := ob298.elim (fun q => q ▸ g_b38) (fun q => Nat.le_trans Z42 q)
    have sz298 : h0.size ≤ b298 := ob298.elim (fun q => q ▸ sz_b38) (fun q => Nat.le_trans KP43.1 q)
    have ne_b2_b298 : b2 ≠ b298 := ob298.elim (fun q => q ▸ ne_b2_b38) (fun q => Nat.ne_of_lt (Nat.lt_of_lt_of_le f40.lt q))
    have ne_b30_b298 : b30 ≠ b298 := ob298.elim (fun q => q ▸ ne_b30_b38) (fun q => Nat.ne_of_lt (Nat.lt_of_lt_of_le E38'.lt q))
    have f300 := f40.keep K298 (ninS ne_b2_b30 (ninS ne_b2_b38 nin0))
    have f301 := E38'.keep K298
    have Z302 : n0 ≤ T298.heap.size := Nat.le_trans Z42 K298.1
    have KP303 : Keep h0 T298.heap [] := KP43.trans K298 (allS (Or.inr sz_b30) (allS (Or.inr sz_b38) all0))
    have f304 : Fld Z T298.heap b30 "org/arborlog/pattern/LineText" "length" "I" (.int (1 : Int32)) := Fl298
    have ct305 : vs298.getD 0 (Value.int (0 : Int32)) = .int (nar .char (nar .char (p4.toUInt32.toUInt16.toUInt32.toInt32))) := hd298
    have K306 : ∀ t, Steps p.tables e below (T298.setTop (mkF m 73 #[.val (.int p1), .val (.int p2), .val (.int p3), .val (.int p4), .val (.int p5), .val (.int p6), .val (.int (4 : Int32)), .val (.ref b2), .val (.ref b30), .unset, .unset, .unset, .unset] [(.ref b30)])) t → Steps p.tables e below G t := fun t k => K297 t (st298.trans k)
    have K307 : ∀ t, Steps p.tables e below (T298.setTop (mkF m 85 #[.val (.int p1), .val (.int p2), .val (.int p3), .val (.int p4), .val (.int p5), .val (.int p6), .val (.int (4 : Int32)), .val (.ref b2), .val (.ref b30), .unset, .unset, .unset, .unset] [(.int (1 : Int32)), (.ref b2), (.ref b30)])) t → Steps p.tables e below G t := by
      intro t k
      refine K306 t ?_
      show Steps p.tables e below (T298.setTop (mkF m 73 #[.val (.int p1), .val (.int p2), .val (.int p3), .val (.int p4), .val (.int p5), .val (.int p6), .val (.int (4 : Int32)), .val (.ref b2), .val (.ref b30), .unset, .unset, .unset, .unset] [(.ref b30)])) _
      refine XS.pop X298.here hx rfl (hb hby at_73) rfl rfl ?_
      show Steps p.tables e below (T298.setTop (mkF m 74 #[.val (.int p1), .val (.int p2), .val (.int p3), .val (.int p4), .val (.int p5), .val (.int p6), .val (.int (4 : Int32)), .val (.ref b2), .val (.ref b30), .unset, .unset, .unset, .unset] [])) _
      refine XS.iload X298.here hx rfl (hb hby at_74) rfl ?_
      show Steps p.tables e below (T298.setTop (mkF m 76 #[.val (.int p1), .val (.int p2), .val (.int p3), .val (.int p4), .val (.int p5), .val (.int p6), .val (.int (4 : Int32)), .val (.ref b2), .val (.ref b30), .unset, .unset, .unset, .unset] [(.int (4 : Int32))])) _
      refine XS.iconst X298.here hx rfl (hb hby at_76) ?_
      show Steps p.tables e below (T298.setTop (mkF m 77 #[.val (.int p1), .val (.int p2), .val (.int p3), .val (.int p4), .val (.int p5), .val (.int p6), .val (.int (4 : Int32)), .val (.ref b2), .val (.ref b30), .unset, .unset, .unset, .unset] [(.int (1 : Int32)), (.int (4 : Int32))])) _
      refine XS.icmpNo X298.here hx rfl (hb hby at_77) rfl (tlt (by decide)).2.2.2 ?_
      show Steps p.tables e below (T298.setTop (mkF m 80 #[.val (.int p1), .val (.int p2), .val (.int p3), .val (.int p4), .val (.int p5), .val (.int p6), .val (.int (4 : Int32)), .val (.ref b2), .val (.ref b30), .unset, .unset, .unset, .unset] [])) _
      refine XS.aload X298.here hx rfl (hb hby at_80) rfl rfl ?_
      show Steps p.tables e below (T298.setTop (mkF m 82 #[.val (.int p1), .val (.int p2), .val (.int p3), .val (.int p4), .val (.int p5), .val (.int p6), .val (.int (4 : Int32)), .val (.ref b2), .val (.ref b30), .unset, .unset, .unset, .unset] [(.ref b30)])) _
      refine XS.aload X298.here hx rfl (hb hby at_82) rfl rfl ?_
      show Steps p.tables e below (T298.setTop (mkF m 84 #[.val (.int p1), .val (.int p2), .val (.int p3), .val (.int p4), .val (.int p5), .val (.int p6), .val (.int (4 : Int32)), .val (.ref b2), .val (.ref b30), .unset, .unset, .unset, .unset] [(.ref b2), (.ref b30)])) _
      refine XS.iconst X298.here hx rfl (hb hby at_84) ?_
      show Steps p.tables e below (T298.setTop (mkF m 85 #[.val (.int p1), .val (.int p2), .val (.int p3), .val (.int p4), .val (.int p5), .val (.int p6), .val (.int (4 : Int32)), .val (.ref b2), .val (.ref b30), .unset, .unset, .unset, .unset] [(.int (1 : Int32)), (.ref b2), (.ref b30)])) _
      exact k
    obtain ⟨cl308, Ar308, qc308, S308, M308, Ha308, Ga308⟩ := id f300
    have hin308 : ¬ ((1 : Int32) < 0 ∨ cl308.slots.size ≤ ((1 : Int32)).toNatClampNeg) := inb_of S308 ⟨by decide, by decide⟩
    have hat308 : cl308.slots[((1 : Int32)).toNatClampNeg]? = some (.int (nar .char (((p4.toUInt32 >>> ((16 : Int32) &&& 31).toUInt32).toInt32).toUInt32.toUInt16.toUInt32.toInt32))) := Ha308.at hin308 rfl
    have K309 : ∀ t, Steps p.tables e below (T298.setTop (mkF m 86 #[.val (.int p1), .val (.int p2), .val (.int p3), .val (.int p4), .val (.int p5), .val (.int p6), .val (.int (4 : Int32)), .val (.ref b2), .val (.ref b30), .unset, .unset, .unset, .unset] [(.int (nar .char (((p4.toUInt32 >>> ((16 : Int32) &&& 31).toUInt32).toInt32).toUInt32.toUInt16.toUInt32.toInt32))), (.ref b30)])) t → Steps p.tables e below G t := fun t k => K307 t (X298.caload hx (j := (1 : Int32)) (v := (.int (nar .char (((p4.toUInt32 >>> ((16 : Int32) &&& 31).toUInt32).toInt32).toUInt32.toUInt16.toUInt32.toInt32)))) Ar308.1 (State.isArrayOf_alike hZ.alike Ar308.2.1) Ar308.2.2 hin308 hat308 (g := (mkF m 85 #[.val (.int p1), .val (.int p2), .val (.int p3), .val (.int p4), .val (.int p5), .val (.int p6), .val (.int (4 : Int32)), .val (.ref b2), .val (.ref b30), .unset, .unset, .unset, .unset] [(.int (1 : Int32)), (.ref b2), (.ref b30)])) rfl rfl (hb hby at_85) _ k)
    obtain ⟨cq310, kq310, q310a, q310b, q310c⟩ := isOf hZ rfl E298'
    obtain ⟨_, _, ⟨T310, L310, kk310, nn310⟩, -, X310, ⟨Lc310, hQ310, lq310, yq310, zq310⟩, st310⟩ := X298.virtualBack hx (y := (⟨"org/arborlog/pattern/LineText", "append", "(C)Lorg/arborlog/pattern/LineText;"⟩ : MethodName)) (z := (⟨"org/arborlog/pattern/LineText", "append", "(C)Lorg/arborlog/pattern/LineText;"⟩ : MethodName)) hown (mvT hZ (hw _ (List.mem_of_getElem? (i := 38) rfl))) (mvT hZ (hw _ (List.mem_of_getElem? (i := 39) rfl))) (notFace_of_selects (args := #[]) (mvT hZ (hw _ (List.mem_of_getElem? (i := 41) rfl)))) (mvT hZ (hw _ (List.mem_of_getElem? (i := 41) rfl))) (mvT hZ (hw _ (List.mem_of_getElem? (i := 40) rfl))) (by decide) (backOf (W := 0) (rm7 l Z a0 hw [] b30 (nar .char (((p4.toUInt32 >>> ((16 : Int32) &&& 31).toUInt32).toInt32).toUInt32.toUInt16.toUInt32.toInt32)) b298 kb298 zb298 (1 : Int32) vs298 T298.heap n0 Z302 E298' Fc298 f304 Vb298 ne_b30_b298 g_b30 gb298 ⟨by decide, by decide⟩ hz298.1 hz298.2) hZ (hw _ (List.mem_of_getElem? (i := 42) rfl)) (hw _ (List.mem_of_getElem? (i := 4) rfl)) (by decide) (by decide)) q310a q310c (g := (mkF m 86 #[.val (.int p1), .val (.int p2), .val (.int p3), .val (.int p4), .val (.int p5), .val (.int p6), .val (.int (4 : Int32)), .val (.ref b2), .val (.ref b30), .unset, .unset, .unset, .unset] [(.int (nar .char (((p4.toUInt32 >>> ((16 : Int32) &&& 31).toUInt32).toInt32).toUInt32.toUInt16.toUInt32.toInt32))), (.ref b30)])) rfl (by rw [hml]; rfl) (Steps.refl _) (argsL := [(.int (nar .char (((p4.toUInt32 >>> ((16 : Int32) &&& 31).toUInt32).toInt32).toUInt32.toUInt16.toUInt32.toInt32)))]) (rest := []) (lenOf pd_8 rfl) rfl (by show 2 * 0 + _ ≤ _; exact Nat.le_of_eq rfl) (hb hby at_86) (fun _ _ => ⟨rfl, rfl, (by decide : 4 + 1 ≤ _), (by decide : 24 + 10 ≤ _)⟩)
    dsimp only [Pt.U, Pt.locs, Pt.cells, Pt.slots] at X310 lq310 yq310 zq310 st310 hQ310
    subst lq310 yq310 zq310
    obtain ⟨b310, kb310, zb310, vs310, rfl, Nq310, K310, ob310, E310', Fc310, Fl310, Vb310, hz310, hc310, hd310⟩ := hQ310
    have N311 := Fr.app N299 Nq310
    have gb310 : n0 ≤ b310 := ob310.elim (fun q => q ▸ gb298) (fun q => Nat.le_trans Z302 q)
    have sz310 : h0.size ≤ b310 := ob310.elim (fun q => q ▸ sz298) (fun q => Nat.le_trans KP303.1 q)
    have ne_b2_b310 : b2 ≠ b310 := ob310.elim (fun q => q ▸ ne_b2_b298) (fun q => Nat.ne_of_lt (Nat.lt_of_lt_of_le f300.lt q))
    have ne_b30_b310 : b30 ≠ b310 := ob310.elim (fun q => q ▸ ne_b30_b298) (fun q => Nat.ne_of_lt (Nat.lt_of_lt_of_le E298'.lt q))
    have f312 := f300.keep K310 (ninS ne_b2_b30 (ninS ne_b2_b298 nin0))
    have f313 := E298'.keep K310
    have Z314 : n0 ≤ T310.heap.size := Nat.le_trans Z302 K310.1
    have KP315 : Keep h0 T310.heap [] := KP303.trans K310 (allS (Or.inr sz_b30) (allS (Or.inr sz298) all0))
    have f316 : Fld Z T310.heap b30 "org/arborlog/pattern/LineText" "length" "I" (.int (2 : Int32)) := Fl310
    have ct317 : vs310.getD 0 (Value.int (0 : Int32)) = .int (nar .char (nar .char (p4.toUInt32.toUInt16.toUInt32.toInt32))) := (hc310 0 (by decide)).trans ct305
    have ct318 : vs310.getD 1 (Value.int (0 : Int32)) = .int (nar .char (nar .char (((p4.toUInt32 >>> ((16 : Int32) &&& 31).toUInt32).toInt32).toUInt32.toUInt16.toUInt32.toInt32))) := hd310
    have K319 : ∀ t, Steps p.tables e below (T310.setTop (mkF m 89 #[.val (.int p1), .val (.int p2), .val (.int p3), .val (.int p4), .val (.int p5), .val (.int p6), .val (.int (4 : Int32)), .val (.ref b2), .val (.ref b30), .unset, .unset, .unset, .unset] [(.ref b30)])) t → Steps p.tables e below G t := fun t k => K309 t (st310.trans k)
    have K320 : ∀ t, Steps p.tables e below (T310.setTop (mkF m 101 #[.val (.int p1), .val (.int p2), .val (.int p3), .val (.int p4), .val (.int p5), .val (.int p6), .val (.int (4 : Int32)), .val (.ref b2), .val (.ref b30), .unset, .unset, .unset, .unset] [(.int (2 : Int32)), (.ref b2), (.ref b30)])) t → Steps p.tables e below G t := by
      intro t k
      refine K319 t ?_
      show Steps p.tables e below (T310.setTop (mkF m 89 #[.val (.int p1), .val (.int p2), .val (.int p3), .val (.int p4), .val (.int p5), .val (.int p6), .val (.int (4 : Int32)), .val (.ref b2), .val (.ref b30), .unset, .unset, .unset, .unset] [(.ref b30)])) _
      refine XS.pop X310.here hx rfl (hb hby at_89) rfl rfl ?_
      show Steps p.tables e below (T310.setTop (mkF m 90 #[.val (.int p1), .val (.int p2), .val (.int p3), .val (.int p4), .val (.int p5), .val (.int p6), .val (.int (4 : Int32)), .val (.ref b2), .val (.ref b30), .unset, .unset, .unset, .unset] [])) _
      refine XS.iload X310.here hx rfl (hb hby at_90) rfl ?_
      show Steps p.tables e below (T310.setTop (mkF m 92 #[.val (.int p1), .val (.int p2), .val (.int p3), .val (.int p4), .val (.int p5), .val (.int p6), .val (.int (4 : Int32)), .val (.ref b2), .val (.ref b30), .unset, .unset, .unset, .unset] [(.int (4 : Int32))])) _
      refine XS.iconst X310.here hx rfl (hb hby at_92) ?_
      show Steps p.tables e below (T310.setTop (mkF m 93 #[.val (.int p1), .val (.int p2), .val (.int p3), .val (.int p4), .val (.int p5), .val (.int p6), .val (.int (4 : Int32)), .val (.ref b2), .val (.ref b30), .unset, .unset, .unset, .unset] [(.int (2 : Int32)), (.int (4 : Int32))])) _
      refine XS.icmpNo X310.here hx rfl (hb hby at_93) rfl (tlt (by decide)).2.2.2 ?_
      show Steps p.tables e below (T310.setTop (mkF m 96 #[.val (.int p1), .val (.int p2), .val (.int p3), .val (.int p4), .val (.int p5), .val (.int p6), .val (.int (4 : Int32)), .val (.ref b2), .val (.ref b30), .unset, .unset, .unset, .unset] [])) _
      refine XS.aload X310.here hx rfl (hb hby at_96) rfl rfl ?_
      show Steps p.tables e below (T310.setTop (mkF m 98 #[.val (.int p1), .val (.int p2), .val (.int p3), .val (.int p4), .val (.int p5), .val (.int p6), .val (.int (4 : Int32)), .val (.ref b2), .val (.ref b30), .unset, .unset, .unset, .unset] [(.ref b30)])) _
      refine XS.aload X310.here hx rfl (hb hby at_98) rfl rfl ?_
      show Steps p.tables e below (T310.setTop (mkF m 100 #[.val (.int p1), .val (.int p2), .val (.int p3), .val (.int p4), .val (.int p5), .val (.int p6), .val (.int (4 : Int32)), .val (.ref b2), .val (.ref b30), .unset, .unset, .unset, .unset] [(.ref b2), (.ref b30)])) _
      refine XS.iconst X310.here hx rfl (hb hby at_100) ?_
      show Steps p.tables e below (T310.setTop (mkF m 101 #[.val (.int p1), .val (.int p2), .val (.int p3), .val (.int p4), .val (.int p5), .val (.int p6), .val (.int (4 : Int32)), .val (.ref b2), .val (.ref b30), .unset, .unset, .unset, .unset] [(.int (2 : Int32)), (.ref b2), (.ref b30)])) _
      exact k
    obtain ⟨cl321, Ar321, qc321, S321, M321, Ha321, Ga321⟩ := id f312
    have hin321 : ¬ ((2 : Int32) < 0 ∨ cl321.slots.size ≤ ((2 : Int32)).toNatClampNeg) := inb_of S321 ⟨by decide, by decide⟩
    have hat321 : cl321.slots[((2 : Int32)).toNatClampNeg]? = some (.int (nar .char (p5.toUInt32.toUInt16.toUInt32.toInt32))) := Ha321.at hin321 rfl
    have K322 : ∀ t, Steps p.tables e below (T310.setTop (mkF m 102 #[.val (.int p1), .val (.int p2), .val (.int p3), .val (.int p4), .val (.int p5), .val (.int p6), .val (.int (4 : Int32)), .val (.ref b2), .val (.ref b30), .unset, .unset, .unset, .unset] [(.int (nar .char (p5.toUInt32.toUInt16.toUInt32.toInt32))), (.ref b30)])) t → Steps p.tables e below G t := fun t k => K320 t (X310.caload hx (j := (2 : Int32)) (v := (.int (nar .char (p5.toUInt32.toUInt16.toUInt32.toInt32)))) Ar321.1 (State.isArrayOf_alike hZ.alike Ar321.2.1) Ar321.2.2 hin321 hat321 (g := (mkF m 101 #[.val (.int p1), .val (.int p2), .val (.int p3), .val (.int p4), .val (.int p5), .val (.int p6), .val (.int (4 : Int32)), .val (.ref b2), .val (.ref b30), .unset, .unset, .unset, .unset] [(.int (2 : Int32)), (.ref b2), (.ref b30)])) rfl rfl (hb hby at_101) _ k)
    obtain ⟨cq323, kq323, q323a, q323b, q323c⟩ := isOf hZ rfl E310'
    obtain ⟨_, _, ⟨T323, L323, kk323, nn323⟩, -, X323, ⟨Lc323, hQ323, lq323, yq323, zq323⟩, st323⟩ := X310.virtualBack hx (y := (⟨"org/arborlog/pattern/LineText", "append", "(C)Lorg/arborlog/pattern/LineText;"⟩ : MethodName)) (z := (⟨"org/arborlog/pattern/LineText", "append", "(C)Lorg/arborlog/pattern/LineText;"⟩ : MethodName)) hown (mvT hZ (hw _ (List.mem_of_getElem? (i := 38) rfl))) (mvT hZ (hw _ (List.mem_of_getElem? (i := 39) rfl))) (notFace_of_selects (args := #[]) (mvT hZ (hw _ (List.mem_of_getElem? (i := 41) rfl)))) (mvT hZ (hw _ (List.mem_of_getElem? (i := 41) rfl))) (mvT hZ (hw _ (List.mem_of_getElem? (i := 40) rfl))) (by decide) (backOf (W := 0) (rm7 l Z a0 hw [] b30 (nar .char (p5.toUInt32.toUInt16.toUInt32.toInt32)) b310 kb310 zb310 (2 : Int32) vs310 T310.heap n0 Z314 E310' Fc310 f316 Vb310 ne_b30_b310 g_b30 gb310 ⟨by decide, by decide⟩ hz310.1 hz310.2) hZ (hw _ (List.mem_of_getElem? (i := 42) rfl)) (hw _ (List.mem_of_getElem? (i := 4) rfl)) (by decide) (by decide)) q323a q323c (g := (mkF m 102 #[.val (.int p1), .val (.int p2), .val (.int p3), .val (.int p4), .val (.int p5), .val (.int p6), .val (.int (4 : Int32)), .val (.ref b2), .val (.ref b30), .unset, .unset, .unset, .unset] [(.int (nar .char (p5.toUInt32.toUInt16.toUInt32.toInt32))), (.ref b30)])) rfl (by rw [hml]; rfl) (Steps.refl _) (argsL := [(.int (nar .char (p5.toUInt32.toUInt16.toUInt32.toInt32)))]) (rest := []) (lenOf pd_8 rfl) rfl (by show 2 * 0 + _ ≤ _; exact Nat.le_of_eq rfl) (hb hby at_102) (fun _ _ => ⟨rfl, rfl, (by decide : 5 + 1 ≤ _), (by decide : 34 + 10 ≤ _)⟩)
    dsimp only [Pt.U, Pt.locs, Pt.cells, Pt.slots] at X323 lq323 yq323 zq323 st323 hQ323
    subst lq323 yq323 zq323
    obtain ⟨b323, kb323, zb323, vs323, rfl, Nq323, K323, ob323, E323', Fc323, Fl323, Vb323, hz323, hc323, hd323⟩ := hQ323
    have N324 := Fr.app N311 Nq323
    have gb323 : n0 ≤ b323 := ob323.elim (fun q => q ▸ gb310) (fun q => Nat.le_trans Z314 q)
    have sz323 : h0.size ≤ b323 := ob323.elim (fun q => q ▸ sz310) (fun q => Nat.le_trans KP315.1 q)
    have ne_b2_b323 : b2 ≠ b323 := ob323.elim (fun q => q ▸ ne_b2_b310) (fun q => Nat.ne_of_lt (Nat.lt_of_lt_of_le f312.lt q))
    have ne_b30_b323 : b30 ≠ b323 := ob323.elim (fun q => q ▸ ne_b30_b310) (fun q => Nat.ne_of_lt (Nat.lt_of_lt_of_le E310'.lt q))
    have f325 := f312.keep K323 (ninS ne_b2_b30 (ninS ne_b2_b310 nin0))
    have f326 := E310'.keep K323
    have Z327 : n0 ≤ T323.heap.size := Nat.le_trans Z314 K323.1
    have KP328 : Keep h0 T323.heap [] := KP315.trans K323 (allS (Or.inr sz_b30) (allS (Or.inr sz310) all0))
    have f329 : Fld Z T323.heap b30 "org/arborlog/pattern/LineText" "length" "I" (.int (3 : Int32)) := Fl323
    have ct330 : vs323.getD 0 (Value.int (0 : Int32)) = .int (nar .char (nar .char (p4.toUInt32.toUInt16.toUInt32.toInt32))) := (hc323 0 (by decide)).trans ct317
    have ct331 : vs323.getD 1 (Value.int (0 : Int32)) = .int (nar .char (nar .char (((p4.toUInt32 >>> ((16 : Int32) &&& 31).toUInt32).toInt32).toUInt32.toUInt16.toUInt32.toInt32))) := (hc323 1 (by decide)).trans ct318
    have ct332 : vs323.getD 2 (Value.int (0 : Int32)) = .int (nar .char (nar .char (p5.toUInt32.toUInt16.toUInt32.toInt32))) := hd323
    have K333 : ∀ t, Steps p.tables e below (T323.setTop (mkF m 105 #[.val (.int p1), .val (.int p2), .val (.int p3), .val (.int p4), .val (.int p5), .val (.int p6), .val (.int (4 : Int32)), .val (.ref b2), .val (.ref b30), .unset, .unset, .unset, .unset] [(.ref b30)])) t → Steps p.tables e below G t := fun t k => K322 t (st323.trans k)
    have K334 : ∀ t, Steps p.tables e below (T323.setTop (mkF m 117 #[.val (.int p1), .val (.int p2), .val (.int p3), .val (.int p4), .val (.int p5), .val (.int p6), .val (.int (4 : Int32)), .val (.ref b2), .val (.ref b30), .unset, .unset, .unset, .unset] [(.int (3 : Int32)), (.ref b2), (.ref b30)])) t → Steps p.tables e below G t := by
      intro t k
      refine K333 t ?_
      show Steps p.tables e below (T323.setTop (mkF m 105 #[.val (.int p1), .val (.int p2), .val (.int p3), .val (.int p4), .val (.int p5), .val (.int p6), .val (.int (4 : Int32)), .val (.ref b2), .val (.ref b30), .unset, .unset, .unset, .unset] [(.ref b30)])) _
      refine XS.pop X323.here hx rfl (hb hby at_105) rfl rfl ?_
      show Steps p.tables e below (T323.setTop (mkF m 106 #[.val (.int p1), .val (.int p2), .val (.int p3), .val (.int p4), .val (.int p5), .val (.int p6), .val (.int (4 : Int32)), .val (.ref b2), .val (.ref b30), .unset, .unset, .unset, .unset] [])) _
      refine XS.iload X323.here hx rfl (hb hby at_106) rfl ?_
      show Steps p.tables e below (T323.setTop (mkF m 108 #[.val (.int p1), .val (.int p2), .val (.int p3), .val (.int p4), .val (.int p5), .val (.int p6), .val (.int (4 : Int32)), .val (.ref b2), .val (.ref b30), .unset, .unset, .unset, .unset] [(.int (4 : Int32))])) _
      refine XS.iconst X323.here hx rfl (hb hby at_108) ?_
      show Steps p.tables e below (T323.setTop (mkF m 109 #[.val (.int p1), .val (.int p2), .val (.int p3), .val (.int p4), .val (.int p5), .val (.int p6), .val (.int (4 : Int32)), .val (.ref b2), .val (.ref b30), .unset, .unset, .unset, .unset] [(.int (3 : Int32)), (.int (4 : Int32))])) _
      refine XS.icmpNo X323.here hx rfl (hb hby at_109) rfl (tlt (by decide)).2.2.2 ?_
      show Steps p.tables e below (T323.setTop (mkF m 112 #[.val (.int p1), .val (.int p2), .val (.int p3), .val (.int p4), .val (.int p5), .val (.int p6), .val (.int (4 : Int32)), .val (.ref b2), .val (.ref b30), .unset, .unset, .unset, .unset] [])) _
      refine XS.aload X323.here hx rfl (hb hby at_112) rfl rfl ?_
      show Steps p.tables e below (T323.setTop (mkF m 114 #[.val (.int p1), .val (.int p2), .val (.int p3), .val (.int p4), .val (.int p5), .val (.int p6), .val (.int (4 : Int32)), .val (.ref b2), .val (.ref b30), .unset, .unset, .unset, .unset] [(.ref b30)])) _
      refine XS.aload X323.here hx rfl (hb hby at_114) rfl rfl ?_
      show Steps p.tables e below (T323.setTop (mkF m 116 #[.val (.int p1), .val (.int p2), .val (.int p3), .val (.int p4), .val (.int p5), .val (.int p6), .val (.int (4 : Int32)), .val (.ref b2), .val (.ref b30), .unset, .unset, .unset, .unset] [(.ref b2), (.ref b30)])) _
      refine XS.iconst X323.here hx rfl (hb hby at_116) ?_
      show Steps p.tables e below (T323.setTop (mkF m 117 #[.val (.int p1), .val (.int p2), .val (.int p3), .val (.int p4), .val (.int p5), .val (.int p6), .val (.int (4 : Int32)), .val (.ref b2), .val (.ref b30), .unset, .unset, .unset, .unset] [(.int (3 : Int32)), (.ref b2), (.ref b30)])) _
      exact k
    obtain ⟨cl335, Ar335, qc335, S335, M335, Ha335, Ga335⟩ := id f325
    have hin335 : ¬ ((3 : Int32) < 0 ∨ cl335.slots.size ≤ ((3 : Int32)).toNatClampNeg) := inb_of S335 ⟨by decide, by decide⟩
    have hat335 : cl335.slots[((3 : Int32)).toNatClampNeg]? = some (.int (nar .char (((p5.toUInt32 >>> ((16 : Int32) &&& 31).toUInt32).toInt32).toUInt32.toUInt16.toUInt32.toInt32))) := Ha335.at hin335 rfl
    have K336 : ∀ t, Steps p.tables e below (T323.setTop (mkF m 118 #[.val (.int p1), .val (.int p2), .val (.int p3), .val (.int p4), .val (.int p5), .val (.int p6), .val (.int (4 : Int32)), .val (.ref b2), .val (.ref b30), .unset, .unset, .unset, .unset] [(.int (nar .char (((p5.toUInt32 >>> ((16 : Int32) &&& 31).toUInt32).toInt32).toUInt32.toUInt16.toUInt32.toInt32))), (.ref b30)])) t → Steps p.tables e below G t := fun t k => K334 t (X323.caload hx (j := (3 : Int32)) (v := (.int (nar .char (((p5.toUInt32 >>> ((16 : Int32) &&& 31).toUInt32).toInt32).toUInt32.toUInt16.toUInt32.toInt32)))) Ar335.1 (State.isArrayOf_alike hZ.alike Ar335.2.1) Ar335.2.2 hin335 hat335 (g := (mkF m 117 #[.val (.int p1), .val (.int p2), .val (.int p3), .val (.int p4), .val (.int p5), .val (.int p6), .val (.int (4 : Int32)), .val (.ref b2), .val (.ref b30), .unset, .unset, .unset, .unset] [(.int (3 : Int32)), (.ref b2), (.ref b30)])) rfl rfl (hb hby at_117) _ k)
    obtain ⟨cq337, kq337, q337a, q337b, q337c⟩ := isOf hZ rfl E323'
    obtain ⟨_, _, ⟨T337, L337, kk337, nn337⟩, -, X337, ⟨Lc337, hQ337, lq337, yq337, zq337⟩, st337⟩ := X323.virtualBack hx (y := (⟨"org/arborlog/pattern/LineText", "append", "(C)Lorg/arborlog/pattern/LineText;"⟩ : MethodName)) (z := (⟨"org/arborlog/pattern/LineText", "append", "(C)Lorg/arborlog/pattern/LineText;"⟩ : MethodName)) hown (mvT hZ (hw _ (List.mem_of_getElem? (i := 38) rfl))) (mvT hZ (hw _ (List.mem_of_getElem? (i := 39) rfl))) (notFace_of_selects (args := #[]) (mvT hZ (hw _ (List.mem_of_getElem? (i := 41) rfl)))) (mvT hZ (hw _ (List.mem_of_getElem? (i := 41) rfl))) (mvT hZ (hw _ (List.mem_of_getElem? (i := 40) rfl))) (by decide) (backOf (W := 0) (rm7 l Z a0 hw [] b30 (nar .char (((p5.toUInt32 >>> ((16 : Int32) &&& 31).toUInt32).toInt32).toUInt32.toUInt16.toUInt32.toInt32)) b323 kb323 zb323 (3 : Int32) vs323 T323.heap n0 Z327 E323' Fc323 f329 Vb323 ne_b30_b323 g_b30 gb323 ⟨by decide, by decide⟩ hz323.1 hz323.2) hZ (hw _ (List.mem_of_getElem? (i := 42) rfl)) (hw _ (List.mem_of_getElem? (i := 4) rfl)) (by decide) (by decide)) q337a q337c (g := (mkF m 118 #[.val (.int p1), .val (.int p2), .val (.int p3), .val (.int p4), .val (.int p5), .val (.int p6), .val (.int (4 : Int32)), .val (.ref b2), .val (.ref b30), .unset, .unset, .unset, .unset] [(.int (nar .char (((p5.toUInt32 >>> ((16 : Int32) &&& 31).toUInt32).toInt32).toUInt32.toUInt16.toUInt32.toInt32))), (.ref b30)])) rfl (by rw [hml]; rfl) (Steps.refl _) (argsL := [(.int (nar .char (((p5.toUInt32 >>> ((16 : Int32) &&& 31).toUInt32).toInt32).toUInt32.toUInt16.toUInt32.toInt32)))]) (rest := []) (lenOf pd_8 rfl) rfl (by show 2 * 0 + _ ≤ _; exact Nat.le_of_eq rfl) (hb hby at_118) (fun _ _ => ⟨rfl, rfl, (by decide : 6 + 1 ≤ _), (by decide : 44 + 10 ≤ _)⟩)
    dsimp only [Pt.U, Pt.locs, Pt.cells, Pt.slots] at X337 lq337 yq337 zq337 st337 hQ337
    subst lq337 yq337 zq337
    obtain ⟨b337, kb337, zb337, vs337, rfl, Nq337, K337, ob337, E337', Fc337, Fl337, Vb337, hz337, hc337, hd337⟩ := hQ337
    have N338 := Fr.app N324 Nq337
    have gb337 : n0 ≤ b337 := ob337.elim (fun q => q ▸ gb323) (fun q => Nat.le_trans Z327 q)
    have sz337 : h0.size ≤ b337 := ob337.elim (fun q => q ▸ sz323) (fun q => Nat.le_trans KP328.1 q)
    have ne_b2_b337 : b2 ≠ b337 := ob337.elim (fun q => q ▸ ne_b2_b323) (fun q => Nat.ne_of_lt (Nat.lt_of_lt_of_le f325.lt q))
    have ne_b30_b337 : b30 ≠ b337 := ob337.elim (fun q => q ▸ ne_b30_b323) (fun q => Nat.ne_of_lt (Nat.lt_of_lt_of_le E323'.lt q))
    have f339 := f325.keep K337 (ninS ne_b2_b30 (ninS ne_b2_b323 nin0))
    have f340 := E323'.keep K337
    have Z341 : n0 ≤ T337.heap.size := Nat.le_trans Z327 K337.1
    have KP342 : Keep h0 T337.heap [] := KP328.trans K337 (allS (Or.inr sz_b30) (allS (Or.inr sz323) all0))
    have f343 : Fld Z T337.heap b30 "org/arborlog/pattern/LineText" "length" "I" (.int (4 : Int32)) := Fl337
    have ct344 : vs337.getD 0 (Value.int (0 : Int32)) = .int (nar .char (nar .char (p4.toUInt32.toUInt16.toUInt32.toInt32))) := (hc337 0 (by decide)).trans ct330
    have ct345 : vs337.getD 1 (Value.int (0 : Int32)) = .int (nar .char (nar .char (((p4.toUInt32 >>> ((16 : Int32) &&& 31).toUInt32).toInt32).toUInt32.toUInt16.toUInt32.toInt32))) := (hc337 1 (by decide)).trans ct331
    have ct346 : vs337.getD 2 (Value.int (0 : Int32)) = .int (nar .char (nar .char (p5.toUInt32.toUInt16.toUInt32.toInt32))) := (hc337 2 (by decide)).trans ct332
    have ct347 : vs337.getD 3 (Value.int (0 : Int32)) = .int (nar .char (nar .char (((p5.toUInt32 >>> ((16 : Int32) &&& 31).toUInt32).toInt32).toUInt32.toUInt16.toUInt32.toInt32))) := hd337
    have K348 : ∀ t, Steps p.tables e below (T337.setTop (mkF m 121 #[.val (.int p1), .val (.int p2), .val (.int p3), .val (.int p4), .val (.int p5), .val (.int p6), .val (.int (4 : Int32)), .val (.ref b2), .val (.ref b30), .unset, .unset, .unset, .unset] [(.ref b30)])) t → Steps p.tables e below G t := fun t k => K336 t (st337.trans k)
    have K349 : ∀ t, Steps p.tables e below (T337.setTop (mkF m 131 #[.val (.int p1), .val (.int p2), .val (.int p3), .val (.int p4), .val (.int p5), .val (.int p6), .val (.int (4 : Int32)), .val (.ref b2), .val (.ref b30), .unset, .unset, .unset, .unset] [(.int ((p2 &&& (2147483647 : Int32)) % (5 : Int32)))])) t → Steps p.tables e below G t := by
      intro t k
      refine K348 t ?_
      show Steps p.tables e below (T337.setTop (mkF m 121 #[.val (.int p1), .val (.int p2), .val (.int p3), .val (.int p4), .val (.int p5), .val (.int p6), .val (.int (4 : Int32)), .val (.ref b2), .val (.ref b30), .unset, .unset, .unset, .unset] [(.ref b30)])) _
      refine XS.pop X337.here hx rfl (hb hby at_121) rfl rfl ?_
      show Steps p.tables e below (T337.setTop (mkF m 122 #[.val (.int p1), .val (.int p2), .val (.int p3), .val (.int p4), .val (.int p5), .val (.int p6), .val (.int (4 : Int32)), .val (.ref b2), .val (.ref b30), .unset, .unset, .unset, .unset] [])) _
      refine XS.iloadN X337.here hx rfl (hb hby at_122) rfl ?_
      show Steps p.tables e below (T337.setTop (mkF m 123 #[.val (.int p1), .val (.int p2), .val (.int p3), .val (.int p4), .val (.int p5), .val (.int p6), .val (.int (4 : Int32)), .val (.ref b2), .val (.ref b30), .unset, .unset, .unset, .unset] [(.int p2)])) _
      refine X337.ldcInt hx hown (mvT hZ (hw _ (List.mem_of_getElem? (i := 0) rfl))) (g := (mkF m 123 #[.val (.int p1), .val (.int p2), .val (.int p3), .val (.int p4), .val (.int p5), .val (.int p6), .val (.int (4 : Int32)), .val (.ref b2), .val (.ref b30), .unset, .unset, .unset, .unset] [(.int p2)])) rfl (hb hby at_123) _ ?_
      show Steps p.tables e below (T337.setTop (mkF m 125 #[.val (.int p1), .val (.int p2), .val (.int p3), .val (.int p4), .val (.int p5), .val (.int p6), .val (.int (4 : Int32)), .val (.ref b2), .val (.ref b30), .unset, .unset, .unset, .unset] [(.int (2147483647 : Int32)), (.int p2)])) _
      refine XS.iand X337.here hx rfl (hb hby at_125) rfl ?_
      show Steps p.tables e below (T337.setTop (mkF m 126 #[.val (.int p1), .val (.int p2), .val (.int p3), .val (.int p4), .val (.int p5), .val (.int p6), .val (.int (4 : Int32)), .val (.ref b2), .val (.ref b30), .unset, .unset, .unset, .unset] [(.int (p2 &&& (2147483647 : Int32)))])) _
      refine XS.iload X337.here hx rfl (hb hby at_126) rfl ?_
      show Steps p.tables e below (T337.setTop (mkF m 128 #[.val (.int p1), .val (.int p2), .val (.int p3), .val (.int p4), .val (.int p5), .val (.int p6), .val (.int (4 : Int32)), .val (.ref b2), .val (.ref b30), .unset, .unset, .unset, .unset] [(.int (4 : Int32)), (.int (p2 &&& (2147483647 : Int32)))])) _
      refine XS.iconst X337.here hx rfl (hb hby at_128) ?_
      show Steps p.tables e below (T337.setTop (mkF m 129 #[.val (.int p1), .val (.int p2), .val (.int p3), .val (.int p4), .val (.int p5), .val (.int p6), .val (.int (4 : Int32)), .val (.ref b2), .val (.ref b30), .unset, .unset, .unset, .unset] [(.int (1 : Int32)), (.int (4 : Int32)), (.int (p2 &&& (2147483647 : Int32)))])) _
      refine XS.iadd X337.here hx rfl (hb hby at_129) rfl ?_
      show Steps p.tables e below (T337.setTop (mkF m 130 #[.val (.int p1), .val (.int p2), .val (.int p3), .val (.int p4), .val (.int p5), .val (.int p6), .val (.int (4 : Int32)), .val (.ref b2), .val (.ref b30), .unset, .unset, .unset, .unset] [(.int (5 : Int32)), (.int (p2 &&& (2147483647 : Int32)))])) _
      refine iremM X337 hx rfl (hb hby at_130) rfl (by decide) ?_
      show Steps p.tables e below (T337.setTop (mkF m 131 #[.val (.int p1), .val (.int p2), .val (.int p3), .val (.int p4), .val (.int p5), .val (.int p6), .val (.int (4 : Int32)), .val (.ref b2), .val (.ref b30), .unset, .unset, .unset, .unset] [(.int ((p2 &&& (2147483647 : Int32)) % (5 : Int32)))])) _
      exact k
    obtain ⟨sa, h_sa⟩ : ∃ z_ : Int32, z_ = ((p2 &&& (2147483647 : Int32)) % (5 : Int32)) := ⟨_, rfl⟩
    have K350 : ∀ t, Steps p.tables e below (T337.setTop (mkF m 131 #[.val (.int p1), .val (.int p2), .val (.int p3), .val (.int p4), .val (.int p5), .val (.int p6), .val (.int (4 : Int32)), .val (.ref b2), .val (.ref b30), .unset, .unset, .unset, .unset] [(.int sa)])) t → Steps p.tables e below G t := by rw [h_sa]; exact K349
    have hsa := own_st p2 (4 : Int32) (5 : Int32) rfl (by decide) sa h_sa
    have K351 : ∀ t, Steps p.tables e below (T337.setTop (mkF m 148 #[.val (.int p1), .val (.int p2), .val (.int p3), .val (.int p4), .val (.int p5), .val (.int p6), .val (.int (4 : Int32)), .val (.ref b2), .val (.ref b30), .val (.int sa), .unset, .unset, .unset] [(.int (sa + ((p3 &&& (2147483647 : Int32)) % (((4 : Int32) - sa) + (1 : Int32)))))])) t → Steps p.tables e below G t := by
      intro t k
      refine K350 t ?_
      show Steps p.tables e below (T337.setTop (mkF m 131 #[.val (.int p1), .val (.int p2), .val (.int p3), .val (.int p4), .val (.int p5), .val (.int p6), .val (.int (4 : Int32)), .val (.ref b2), .val (.ref b30), .unset, .unset, .unset, .unset] [(.int sa)])) _
      refine XS.istore X337.here hx rfl (hb hby at_131) rfl (l' := #[.val (.int p1), .val (.int p2), .val (.int p3), .val (.int p4), .val (.int p5), .val (.int p6), .val (.int (4 : Int32)), .val (.ref b2), .val (.ref b30), .val (.int sa), .unset, .unset, .unset]) rfl ?_
      show Steps p.tables e below (T337.setTop (mkF m 133 #[.val (.int p1), .val (.int p2), .val (.int p3), .val (.int p4), .val (.int p5), .val (.int p6), .val (.int (4 : Int32)), .val (.ref b2), .val (.ref b30), .val (.int sa), .unset, .unset, .unset] [])) _
      refine XS.iload X337.here hx rfl (hb hby at_133) rfl ?_
      show Steps p.tables e below (T337.setTop (mkF m 135 #[.val (.int p1), .val (.int p2), .val (.int p3), .val (.int p4), .val (.int p5), .val (.int p6), .val (.int (4 : Int32)), .val (.ref b2), .val (.ref b30), .val (.int sa), .unset, .unset, .unset] [(.int sa)])) _
      refine XS.iloadN X337.here hx rfl (hb hby at_135) rfl ?_
      show Steps p.tables e below (T337.setTop (mkF m 136 #[.val (.int p1), .val (.int p2), .val (.int p3), .val (.int p4), .val (.int p5), .val (.int p6), .val (.int (4 : Int32)), .val (.ref b2), .val (.ref b30), .val (.int sa), .unset, .unset, .unset] [(.int p3), (.int sa)])) _
      refine X337.ldcInt hx hown (mvT hZ (hw _ (List.mem_of_getElem? (i := 0) rfl))) (g := (mkF m 136 #[.val (.int p1), .val (.int p2), .val (.int p3), .val (.int p4), .val (.int p5), .val (.int p6), .val (.int (4 : Int32)), .val (.ref b2), .val (.ref b30), .val (.int sa), .unset, .unset, .unset] [(.int p3), (.int sa)])) rfl (hb hby at_136) _ ?_
      show Steps p.tables e below (T337.setTop (mkF m 138 #[.val (.int p1), .val (.int p2), .val (.int p3), .val (.int p4), .val (.int p5), .val (.int p6), .val (.int (4 : Int32)), .val (.ref b2), .val (.ref b30), .val (.int sa), .unset, .unset, .unset] [(.int (2147483647 : Int32)), (.int p3), (.int sa)])) _
      refine XS.iand X337.here hx rfl (hb hby at_138) rfl ?_
      show Steps p.tables e below (T337.setTop (mkF m 139 #[.val (.int p1), .val (.int p2), .val (.int p3), .val (.int p4), .val (.int p5), .val (.int p6), .val (.int (4 : Int32)), .val (.ref b2), .val (.ref b30), .val (.int sa), .unset, .unset, .unset] [(.int (p3 &&& (2147483647 : Int32))), (.int sa)])) _
      refine XS.iload X337.here hx rfl (hb hby at_139) rfl ?_
      show Steps p.tables e below (T337.setTop (mkF m 141 #[.val (.int p1), .val (.int p2), .val (.int p3), .val (.int p4), .val (.int p5), .val (.int p6), .val (.int (4 : Int32)), .val (.ref b2), .val (.ref b30), .val (.int sa), .unset, .unset, .unset] [(.int (4 : Int32)), (.int (p3 &&& (2147483647 : Int32))), (.int sa)])) _
      refine XS.iload X337.here hx rfl (hb hby at_141) rfl ?_
      show Steps p.tables e below (T337.setTop (mkF m 143 #[.val (.int p1), .val (.int p2), .val (.int p3), .val (.int p4), .val (.int p5), .val (.int p6), .val (.int (4 : Int32)), .val (.ref b2), .val (.ref b30), .val (.int sa), .unset, .unset, .unset] [(.int sa), (.int (4 : Int32)), (.int (p3 &&& (2147483647 : Int32))), (.int sa)])) _
      refine XS.isub X337.here hx rfl (hb hby at_143) rfl ?_
      show Steps p.tables e below (T337.setTop (mkF m 144 #[.val (.int p1), .val (.int p2), .val (.int p3), .val (.int p4), .val (.int p5), .val (.int p6), .val (.int (4 : Int32)), .val (.ref b2), .val (.ref b30), .val (.int sa), .unset, .unset, .unset] [(.int ((4 : Int32) - sa)), (.int (p3 &&& (2147483647 : Int32))), (.int sa)])) _
      refine XS.iconst X337.here hx rfl (hb hby at_144) ?_
      show Steps p.tables e below (T337.setTop (mkF m 145 #[.val (.int p1), .val (.int p2), .val (.int p3), .val (.int p4), .val (.int p5), .val (.int p6), .val (.int (4 : Int32)), .val (.ref b2), .val (.ref b30), .val (.int sa), .unset, .unset, .unset] [(.int (1 : Int32)), (.int ((4 : Int32) - sa)), (.int (p3 &&& (2147483647 : Int32))), (.int sa)])) _
      refine XS.iadd X337.here hx rfl (hb hby at_145) rfl ?_
      show Steps p.tables e below (T337.setTop (mkF m 146 #[.val (.int p1), .val (.int p2), .val (.int p3), .val (.int p4), .val (.int p5), .val (.int p6), .val (.int (4 : Int32)), .val (.ref b2), .val (.ref b30), .val (.int sa), .unset, .unset, .unset] [(.int (((4 : Int32) - sa) + (1 : Int32))), (.int (p3 &&& (2147483647 : Int32))), (.int sa)])) _
      refine iremM X337 hx rfl (hb hby at_146) rfl (own_nz _ _ (by decide) hsa).2 ?_
      show Steps p.tables e below (T337.setTop (mkF m 147 #[.val (.int p1), .val (.int p2), .val (.int p3), .val (.int p4), .val (.int p5), .val (.int p6), .val (.int (4 : Int32)), .val (.ref b2), .val (.ref b30), .val (.int sa), .unset, .unset, .unset] [(.int ((p3 &&& (2147483647 : Int32)) % (((4 : Int32) - sa) + (1 : Int32)))), (.int sa)])) _
      refine XS.iadd X337.here hx rfl (hb hby at_147) rfl ?_
      show Steps p.tables e below (T337.setTop (mkF m 148 #[.val (.int p1), .val (.int p2), .val (.int p3), .val (.int p4), .val (.int p5), .val (.int p6), .val (.int (4 : Int32)), .val (.ref b2), .val (.ref b30), .val (.int sa), .unset, .unset, .unset] [(.int (sa + ((p3 &&& (2147483647 : Int32)) % (((4 : Int32) - sa) + (1 : Int32)))))])) _
      exact k
    obtain ⟨ea, h_ea⟩ : ∃ z_ : Int32, z_ = (sa + ((p3 &&& (2147483647 : Int32)) % (((4 : Int32) - sa) + (1 : Int32)))) := ⟨_, rfl⟩
    have K352 : ∀ t, Steps p.tables e below (T337.setTop (mkF m 148 #[.val (.int p1), .val (.int p2), .val (.int p3), .val (.int p4), .val (.int p5), .val (.int p6), .val (.int (4 : Int32)), .val (.ref b2), .val (.ref b30), .val (.int sa), .unset, .unset, .unset] [(.int ea)])) t → Steps p.tables e below G t := by rw [h_ea]; exact K351
    have hea := own_en p3 (4 : Int32) sa ea (by decide) hsa h_ea
    have hB : own_B (4 : Int32) sa ea := ⟨hsa.1, hea.1, hea.2, by decide⟩
    have K353 : ∀ t, Steps p.tables e below (T337.setTop (mkF m 156 #[.val (.int p1), .val (.int p2), .val (.int p3), .val (.int p4), .val (.int p5), .val (.int p6), .val (.int (4 : Int32)), .val (.ref b2), .val (.ref b30), .val (.int sa), .val (.int ea), .unset, .unset] [(.int ea), (.int sa), (.ref b30)])) t → Steps p.tables e below G t := by
      intro t k
      refine K352 t ?_
      show Steps p.tables e below (T337.setTop (mkF m 148 #[.val (.int p1), .val (.int p2), .val (.int p3), .val (.int p4), .val (.int p5), .val (.int p6), .val (.int (4 : Int32)), .val (.ref b2), .val (.ref b30), .val (.int sa), .unset, .unset, .unset] [(.int ea)])) _
      refine XS.istore X337.here hx rfl (hb hby at_148) rfl (l' := #[.val (.int p1), .val (.int p2), .val (.int p3), .val (.int p4), .val (.int p5), .val (.int p6), .val (.int (4 : Int32)), .val (.ref b2), .val (.ref b30), .val (.int sa), .val (.int ea), .unset, .unset]) rfl ?_
      show Steps p.tables e below (T337.setTop (mkF m 150 #[.val (.int p1), .val (.int p2), .val (.int p3), .val (.int p4), .val (.int p5), .val (.int p6), .val (.int (4 : Int32)), .val (.ref b2), .val (.ref b30), .val (.int sa), .val (.int ea), .unset, .unset] [])) _
      refine XS.aload X337.here hx rfl (hb hby at_150) rfl rfl ?_
      show Steps p.tables e below (T337.setTop (mkF m 152 #[.val (.int p1), .val (.int p2), .val (.int p3), .val (.int p4), .val (.int p5), .val (.int p6), .val (.int (4 : Int32)), .val (.ref b2), .val (.ref b30), .val (.int sa), .val (.int ea), .unset, .unset] [(.ref b30)])) _
      refine XS.iload X337.here hx rfl (hb hby at_152) rfl ?_
      show Steps p.tables e below (T337.setTop (mkF m 154 #[.val (.int p1), .val (.int p2), .val (.int p3), .val (.int p4), .val (.int p5), .val (.int p6), .val (.int (4 : Int32)), .val (.ref b2), .val (.ref b30), .val (.int sa), .val (.int ea), .unset, .unset] [(.int sa), (.ref b30)])) _
      refine XS.iload X337.here hx rfl (hb hby at_154) rfl ?_
      show Steps p.tables e below (T337.setTop (mkF m 156 #[.val (.int p1), .val (.int p2), .val (.int p3), .val (.int p4), .val (.int p5), .val (.int p6), .val (.int (4 : Int32)), .val (.ref b2), .val (.ref b30), .val (.int sa), .val (.int ea), .unset, .unset] [(.int ea), (.int sa), (.ref b30)])) _
      exact k
    obtain ⟨cq354, kq354, q354a, q354b, q354c⟩ := isOf hZ rfl E337'
    obtain ⟨_, _, ⟨T354, L354, kk354, nn354⟩, -, X354, ⟨Lc354, hQ354, lq354, yq354, zq354⟩, st354⟩ := X337.virtualBack hx (y := (⟨"org/arborlog/pattern/LineText", "delete", "(II)V"⟩ : MethodName)) (z := (⟨"org/arborlog/pattern/LineText", "delete", "(II)V"⟩ : MethodName)) hown (mvT hZ (hw _ (List.mem_of_getElem? (i := 13) rfl))) (mvT hZ (hw _ (List.mem_of_getElem? (i := 14) rfl))) (notFace_of_selects (args := #[]) (mvT hZ (hw _ (List.mem_of_getElem? (i := 16) rfl)))) (mvT hZ (hw _ (List.mem_of_getElem? (i := 16) rfl))) (mvT hZ (hw _ (List.mem_of_getElem? (i := 15) rfl))) (by decide) (backOf (W := 0) (rm3 l Z a0 hw [] b30 sa ea b337 kb337 zb337 (4 : Int32) vs337 T337.heap n0 Z341 E337' Fc337 f343 Vb337 ne_b30_b337 g_b30 gb337 hB hz337.1) hZ (hw _ (List.mem_of_getElem? (i := 17) rfl)) (hw _ (List.mem_of_getElem? (i := 4) rfl)) (by decide) (by decide)) q354a q354c (g := (mkF m 156 #[.val (.int p1), .val (.int p2), .val (.int p3), .val (.int p4), .val (.int p5), .val (.int p6), .val (.int (4 : Int32)), .val (.ref b2), .val (.ref b30), .val (.int sa), .val (.int ea), .unset, .unset] [(.int ea), (.int sa), (.ref b30)])) rfl (by rw [hml]; rfl) (Steps.refl _) (argsL := [(.int sa), (.int ea)]) (rest := []) (lenOf pd_4 rfl) rfl (by show 2 * 0 + _ ≤ _; exact Nat.le_of_eq rfl) (hb hby at_156) (fun _ _ => ⟨rfl, rfl, (by decide : 7 + 0 ≤ _), (by decide : 54 + 0 ≤ _)⟩)
    dsimp only [Pt.U, Pt.locs, Pt.cells, Pt.slots] at X354 lq354 yq354 zq354 st354 hQ354
    subst lq354 yq354 zq354
    obtain ⟨vs354, rfl, Nq354, K354, E354', Fc354, Fl354, Vb354, hA354, hB354⟩ := hQ354
    have N355 := Fr.app N338 Nq354
    have f356 := f339.keep K354 (ninS ne_b2_b30 (ninS ne_b2_b337 nin0))
    have f357 := E337'.keep K354
    have Z358 : n0 ≤ T354.heap.size := Nat.le_trans Z341 K354.1
    have KP359 : Keep h0 T354.heap [] := KP342.trans K354 (allS (Or.inr sz_b30) (allS (Or.inr sz337) all0))
    have K360 : ∀ t, Steps p.tables e below (T354.setTop (mkF m 159 #[.val (.int p1), .val (.int p2), .val (.int p3), .val (.int p4), .val (.int p5), .val (.int p6), .val (.int (4 : Int32)), .val (.ref b2), .val (.ref b30), .val (.int sa), .val (.int ea), .unset, .unset] [])) t → Steps p.tables e below G t := fun t k => K353 t (st354.trans k)
    have K361 : ∀ t, Steps p.tables e below (T354.setTop (mkF m 167 #[.val (.int p1), .val (.int p2), .val (.int p3), .val (.int p4), .val (.int p5), .val (.int p6), .val (.int (4 : Int32)), .val (.ref b2), .val (.ref b30), .val (.int sa), .val (.int ea), .unset, .unset] [(.int ((4 : Int32) - (ea - sa)))])) t → Steps p.tables e below G t := by
      intro t k
      refine K360 t ?_
      show Steps p.tables e below (T354.setTop (mkF m 159 #[.val (.int p1), .val (.int p2), .val (.int p3), .val (.int p4), .val (.int p5), .val (.int p6), .val (.int (4 : Int32)), .val (.ref b2), .val (.ref b30), .val (.int sa), .val (.int ea), .unset, .unset] [])) _
      refine XS.iload X354.here hx rfl (hb hby at_159) rfl ?_
      show Steps p.tables e below (T354.setTop (mkF m 161 #[.val (.int p1), .val (.int p2), .val (.int p3), .val (.int p4), .val (.int p5), .val (.int p6), .val (.int (4 : Int32)), .val (.ref b2), .val (.ref b30), .val (.int sa), .val (.int ea), .unset, .unset] [(.int (4 : Int32))])) _
      refine XS.iload X354.here hx rfl (hb hby at_161) rfl ?_
      show Steps p.tables e below (T354.setTop (mkF m 163 #[.val (.int p1), .val (.int p2), .val (.int p3), .val (.int p4), .val (.int p5), .val (.int p6), .val (.int (4 : Int32)), .val (.ref b2), .val (.ref b30), .val (.int sa), .val (.int ea), .unset, .unset] [(.int ea), (.int (4 : Int32))])) _
      refine XS.iload X354.here hx rfl (hb hby at_163) rfl ?_
      show Steps p.tables e below (T354.setTop (mkF m 165 #[.val (.int p1), .val (.int p2), .val (.int p3), .val (.int p4), .val (.int p5), .val (.int p6), .val (.int (4 : Int32)), .val (.ref b2), .val (.ref b30), .val (.int sa), .val (.int ea), .unset, .unset] [(.int sa), (.int ea), (.int (4 : Int32))])) _
      refine XS.isub X354.here hx rfl (hb hby at_165) rfl ?_
      show Steps p.tables e below (T354.setTop (mkF m 166 #[.val (.int p1), .val (.int p2), .val (.int p3), .val (.int p4), .val (.int p5), .val (.int p6), .val (.int (4 : Int32)), .val (.ref b2), .val (.ref b30), .val (.int sa), .val (.int ea), .unset, .unset] [(.int (ea - sa)), (.int (4 : Int32))])) _
      refine XS.isub X354.here hx rfl (hb hby at_166) rfl ?_
      show Steps p.tables e below (T354.setTop (mkF m 167 #[.val (.int p1), .val (.int p2), .val (.int p3), .val (.int p4), .val (.int p5), .val (.int p6), .val (.int (4 : Int32)), .val (.ref b2), .val (.ref b30), .val (.int sa), .val (.int ea), .unset, .unset] [(.int ((4 : Int32) - (ea - sa)))])) _
      exact k
    obtain ⟨nl, h_nl⟩ : ∃ z_ : Int32, z_ = ((4 : Int32) - (ea - sa)) := ⟨_, rfl⟩
    have K362 : ∀ t, Steps p.tables e below (T354.setTop (mkF m 167 #[.val (.int p1), .val (.int p2), .val (.int p3), .val (.int p4), .val (.int p5), .val (.int p6), .val (.int (4 : Int32)), .val (.ref b2), .val (.ref b30), .val (.int sa), .val (.int ea), .unset, .unset] [(.int nl)])) t → Steps p.tables e below G t := by rw [h_nl]; exact K361
    have K363 : ∀ t, Steps p.tables e below (T354.setTop (mkF m 171 #[.val (.int p1), .val (.int p2), .val (.int p3), .val (.int p4), .val (.int p5), .val (.int p6), .val (.int (4 : Int32)), .val (.ref b2), .val (.ref b30), .val (.int sa), .val (.int ea), .val (.int nl), .unset] [(.ref b30)])) t → Steps p.tables e below G t := by
      intro t k
      refine K362 t ?_
      show Steps p.tables e below (T354.setTop (mkF m 167 #[.val (.int p1), .val (.int p2), .val (.int p3), .val (.int p4), .val (.int p5), .val (.int p6), .val (.int (4 : Int32)), .val (.ref b2), .val (.ref b30), .val (.int sa), .val (.int ea), .unset, .unset] [(.int nl)])) _
      refine XS.istore X354.here hx rfl (hb hby at_167) rfl (l' := #[.val (.int p1), .val (.int p2), .val (.int p3), .val (.int p4), .val (.int p5), .val (.int p6), .val (.int (4 : Int32)), .val (.ref b2), .val (.ref b30), .val (.int sa), .val (.int ea), .val (.int nl), .unset]) rfl ?_
      show Steps p.tables e below (T354.setTop (mkF m 169 #[.val (.int p1), .val (.int p2), .val (.int p3), .val (.int p4), .val (.int p5), .val (.int p6), .val (.int (4 : Int32)), .val (.ref b2), .val (.ref b30), .val (.int sa), .val (.int ea), .val (.int nl), .unset] [])) _
      refine XS.aload X354.here hx rfl (hb hby at_169) rfl rfl ?_
      show Steps p.tables e below (T354.setTop (mkF m 171 #[.val (.int p1), .val (.int p2), .val (.int p3), .val (.int p4), .val (.int p5), .val (.int p6), .val (.int (4 : Int32)), .val (.ref b2), .val (.ref b30), .val (.int sa), .val (.int ea), .val (.int nl), .unset] [(.ref b30)])) _
      exact k
    obtain ⟨cq364, kq364, q364a, q364b, q364c⟩ := isOf hZ rfl E354'
    obtain ⟨_, _, ⟨T364, L364, kk364, nn364⟩, -, X364, ⟨Lc364, hQ364, lq364, yq364, zq364⟩, st364⟩ := X354.virtualBack hx (y := (⟨"org/arborlog/pattern/LineText", "length", "()I"⟩ : MethodName)) (z := (⟨"org/arborlog/pattern/LineText", "length", "()I"⟩ : MethodName)) hown (mvT hZ (hw _ (List.mem_of_getElem? (i := 24) rfl))) (mvT hZ (hw _ (List.mem_of_getElem? (i := 25) rfl))) (notFace_of_selects (args := #[]) (mvT hZ (hw _ (List.mem_of_getElem? (i := 27) rfl)))) (mvT hZ (hw _ (List.mem_of_getElem? (i := 27) rfl))) (mvT hZ (hw _ (List.mem_of_getElem? (i := 26) rfl))) (by decide) (backOf (W := 0) (rm4 l Z a0 hw [] b30 ((4 : Int32) - (ea - sa)) T354.heap n0 Z358 Fl354) hZ (hw _ (List.mem_of_getElem? (i := 28) rfl)) (hw _ (List.mem_of_getElem? (i := 4) rfl)) (by decide) (by decide)) q364a q364c (g := (mkF m 171 #[.val (.int p1), .val (.int p2), .val (.int p3), .val (.int p4), .val (.int p5), .val (.int p6), .val (.int (4 : Int32)), .val (.ref b2), .val (.ref b30), .val (.int sa), .val (.int ea), .val (.int nl), .unset] [(.ref b30)])) rfl (by rw [hml]; rfl) (Steps.refl _) (argsL := []) (rest := []) (lenOf pd_5 rfl) rfl (by show 2 * 0 + _ ≤ _; exact Nat.le_of_eq rfl) (hb hby at_171) (fun _ _ => ⟨rfl, rfl, (by decide : 7 + 0 ≤ _), (by decide : 54 + 0 ≤ _)⟩)
    dsimp only [Pt.U, Pt.locs, Pt.cells, Pt.slots] at X364 lq364 yq364 zq364 st364 hQ364
    subst lq364 yq364 zq364
    obtain ⟨rfl, Nq364, e364⟩ := hQ364
    have N365 := Fr.app N355 Nq364
    have K366 : ∀ t, Steps p.tables e below (T364.setTop (mkF m 174 #[.val (.int p1), .val (.int p2), .val (.int p3), .val (.int p4), .val (.int p5), .val (.int p6), .val (.int (4 : Int32)), .val (.ref b2), .val (.ref b30), .val (.int sa), .val (.int ea), .val (.int nl), .unset] [(.int ((4 : Int32) - (ea - sa)))])) t → Steps p.tables e below G t := fun t k => K363 t (st364.trans k)
    have K367 : ∀ t, Steps p.tables e below (T364.setTop (mkF m 183 #[.val (.int p1), .val (.int p2), .val (.int p3), .val (.int p4), .val (.int p5), .val (.int p6), .val (.int (4 : Int32)), .val (.ref b2), .val (.ref b30), .val (.int sa), .val (.int ea), .val (.int nl), .unset] [(.ref b30)])) t → Steps p.tables e below G t := by
      intro t k
      refine K366 t ?_
      show Steps p.tables e below (T364.setTop (mkF m 174 #[.val (.int p1), .val (.int p2), .val (.int p3), .val (.int p4), .val (.int p5), .val (.int p6), .val (.int (4 : Int32)), .val (.ref b2), .val (.ref b30), .val (.int sa), .val (.int ea), .val (.int nl), .unset] [(.int ((4 : Int32) - (ea - sa)))])) _
      refine XS.iload X364.here hx rfl (hb hby at_174) rfl ?_
      show Steps p.tables e below (T364.setTop (mkF m 176 #[.val (.int p1), .val (.int p2), .val (.int p3), .val (.int p4), .val (.int p5), .val (.int p6), .val (.int (4 : Int32)), .val (.ref b2), .val (.ref b30), .val (.int sa), .val (.int ea), .val (.int nl), .unset] [(.int nl), (.int ((4 : Int32) - (ea - sa)))])) _
      refine XS.icmpYes X364.here hx rfl (pc0 := 176) (pc' := 181) rfl (hb hby at_176) rfl (teq h_nl.symm).1 (by decide) (by decide) ?_
      show Steps p.tables e below (T364.setTop (mkF m 181 #[.val (.int p1), .val (.int p2), .val (.int p3), .val (.int p4), .val (.int p5), .val (.int p6), .val (.int (4 : Int32)), .val (.ref b2), .val (.ref b30), .val (.int sa), .val (.int ea), .val (.int nl), .unset] [])) _
      refine XS.aload X364.here hx rfl (hb hby at_181) rfl rfl ?_
      show Steps p.tables e below (T364.setTop (mkF m 183 #[.val (.int p1), .val (.int p2), .val (.int p3), .val (.int p4), .val (.int p5), .val (.int p6), .val (.int (4 : Int32)), .val (.ref b2), .val (.ref b30), .val (.int sa), .val (.int ea), .val (.int nl), .unset] [(.ref b30)])) _
      exact k
    obtain ⟨cq368, kq368, q368a, q368b, q368c⟩ := isOf hZ e364 E354'
    obtain ⟨_, _, ⟨T368, L368, kk368, nn368⟩, -, X368, ⟨Lc368, hQ368, lq368, yq368, zq368⟩, st368⟩ := X364.virtualBack hx (y := (⟨"org/arborlog/pattern/LineText", "chars", "()[C"⟩ : MethodName)) (z := (⟨"org/arborlog/pattern/LineText", "chars", "()[C"⟩ : MethodName)) hown (mvT hZ (hw _ (List.mem_of_getElem? (i := 29) rfl))) (mvT hZ (hw _ (List.mem_of_getElem? (i := 30) rfl))) (notFace_of_selects (args := #[]) (mvT hZ (hw _ (List.mem_of_getElem? (i := 32) rfl)))) (mvT hZ (hw _ (List.mem_of_getElem? (i := 32) rfl))) (mvT hZ (hw _ (List.mem_of_getElem? (i := 31) rfl))) (by decide) (backOf (W := 0) (rm5 l Z a0 hw [] b30 b337 T354.heap n0 Z358 Fc354) hZ (hw _ (List.mem_of_getElem? (i := 33) rfl)) (hw _ (List.mem_of_getElem? (i := 4) rfl)) (by decide) (by decide)) q368a q368c (g := (mkF m 183 #[.val (.int p1), .val (.int p2), .val (.int p3), .val (.int p4), .val (.int p5), .val (.int p6), .val (.int (4 : Int32)), .val (.ref b2), .val (.ref b30), .val (.int sa), .val (.int ea), .val (.int nl), .unset] [(.ref b30)])) rfl (by rw [hml]; rfl) (Steps.refl _) (argsL := []) (rest := []) (lenOf pd_6 rfl) rfl (by show 2 * 0 + _ ≤ _; exact Nat.le_of_eq rfl) (hb hby at_183) (fun _ _ => ⟨rfl, e364, (by decide : 7 + 0 ≤ _), (by decide : 54 + 0 ≤ _)⟩)
    dsimp only [Pt.U, Pt.locs, Pt.cells, Pt.slots] at X368 lq368 yq368 zq368 st368 hQ368
    subst lq368 yq368 zq368
    obtain ⟨rfl, Nq368, e368⟩ := hQ368
    have N369 := Fr.app N365 Nq368
    have K370 : ∀ t, Steps p.tables e below (T368.setTop (mkF m 186 #[.val (.int p1), .val (.int p2), .val (.int p3), .val (.int p4), .val (.int p5), .val (.int p6), .val (.int (4 : Int32)), .val (.ref b2), .val (.ref b30), .val (.int sa), .val (.int ea), .val (.int nl), .unset] [(.ref b337)])) t → Steps p.tables e below G t := fun t k => K367 t (st368.trans k)
    have K371 : ∀ t, Steps p.tables e below (T368.setTop (mkF m 190 #[.val (.int p1), .val (.int p2), .val (.int p3), .val (.int p4), .val (.int p5), .val (.int p6), .val (.int (4 : Int32)), .val (.ref b2), .val (.ref b30), .val (.int sa), .val (.int ea), .val (.int nl), .val (.ref b337)] [(.ref b337)])) t → Steps p.tables e below G t := by
      intro t k
      refine K370 t ?_
      show Steps p.tables e below (T368.setTop (mkF m 186 #[.val (.int p1), .val (.int p2), .val (.int p3), .val (.int p4), .val (.int p5), .val (.int p6), .val (.int (4 : Int32)), .val (.ref b2), .val (.ref b30), .val (.int sa), .val (.int ea), .val (.int nl), .unset] [(.ref b337)])) _
      refine XS.astore X368.here hx rfl (hb hby at_186) rfl rfl (l' := #[.val (.int p1), .val (.int p2), .val (.int p3), .val (.int p4), .val (.int p5), .val (.int p6), .val (.int (4 : Int32)), .val (.ref b2), .val (.ref b30), .val (.int sa), .val (.int ea), .val (.int nl), .val (.ref b337)]) rfl ?_
      show Steps p.tables e below (T368.setTop (mkF m 188 #[.val (.int p1), .val (.int p2), .val (.int p3), .val (.int p4), .val (.int p5), .val (.int p6), .val (.int (4 : Int32)), .val (.ref b2), .val (.ref b30), .val (.int sa), .val (.int ea), .val (.int nl), .val (.ref b337)] [])) _
      refine XS.aload X368.here hx rfl (hb hby at_188) rfl rfl ?_
      show Steps p.tables e below (T368.setTop (mkF m 190 #[.val (.int p1), .val (.int p2), .val (.int p3), .val (.int p4), .val (.int p5), .val (.int p6), .val (.int (4 : Int32)), .val (.ref b2), .val (.ref b30), .val (.int sa), .val (.int ea), .val (.int nl), .val (.ref b337)] [(.ref b337)])) _
      exact k
    obtain ⟨cl372, Ar372, -, S372, M372, -, -⟩ := id Vb354
    have K373 : ∀ t, Steps p.tables e below (T368.setTop (mkF m 191 #[.val (.int p1), .val (.int p2), .val (.int p3), .val (.int p4), .val (.int p5), .val (.int p6), .val (.int (4 : Int32)), .val (.ref b2), .val (.ref b30), .val (.int sa), .val (.int ea), .val (.int nl), .val (.ref b337)] [(.int zb337)])) t → Steps p.tables e below G t := by
      intro t k
      refine K371 t ?_
      refine X368.arraylength hx (by rw [e368]; exact Ar372.1) (State.isArrayOf_alike hZ.alike Ar372.2.1) (g := (mkF m 190 #[.val (.int p1), .val (.int p2), .val (.int p3), .val (.int p4), .val (.int p5), .val (.int p6), .val (.int (4 : Int32)), .val (.ref b2), .val (.ref b30), .val (.int sa), .val (.int ea), .val (.int nl), .val (.ref b337)] [(.ref b337)])) rfl rfl (hb hby at_190) _ ?_
      rw [len_of S372 M372]
      exact k
    have K374 : ∀ t, Steps p.tables e below (T368.setTop (mkF m 198 #[.val (.int p1), .val (.int p2), .val (.int p3), .val (.int p4), .val (.int p5), .val (.int p6), .val (.int (4 : Int32)), .val (.ref b2), .val (.ref b30), .val (.int sa), .val (.int ea), .val (.int nl), .val (.ref b337)] [])) t → Steps p.tables e below G t := by
      intro t k
      refine K373 t ?_
      show Steps p.tables e below (T368.setTop (mkF m 191 #[.val (.int p1), .val (.int p2), .val (.int p3), .val (.int p4), .val (.int p5), .val (.int p6), .val (.int (4 : Int32)), .val (.ref b2), .val (.ref b30), .val (.int sa), .val (.int ea), .val (.int nl), .val (.ref b337)] [(.int zb337)])) _
      refine XS.iload X368.here hx rfl (hb hby at_191) rfl ?_
      show Steps p.tables e below (T368.setTop (mkF m 193 #[.val (.int p1), .val (.int p2), .val (.int p3), .val (.int p4), .val (.int p5), .val (.int p6), .val (.int (4 : Int32)), .val (.ref b2), .val (.ref b30), .val (.int sa), .val (.int ea), .val (.int nl), .val (.ref b337)] [(.int nl), (.int zb337)])) _
      refine XS.icmpYes X368.here hx rfl (pc0 := 193) (pc' := 198) rfl (hb hby at_193) rfl (flt (own_zl hB hz337.1 h_nl)).2.1 (by decide) (by decide) ?_
      show Steps p.tables e below (T368.setTop (mkF m 198 #[.val (.int p1), .val (.int p2), .val (.int p3), .val (.int p4), .val (.int p5), .val (.int p6), .val (.int (4 : Int32)), .val (.ref b2), .val (.ref b30), .val (.int sa), .val (.int ea), .val (.int nl), .val (.ref b337)] [])) _
      exact k
    have hf : ∀ j : Nat, j < (4 : Int32).toNatClampNeg → vs337.getD j (Value.int (0 : Int32)) = .int (nar .char (([(nar .char (p4.toUInt32.toUInt16.toUInt32.toInt32)), (nar .char (((p4.toUInt32 >>> ((16 : Int32) &&& 31).toUInt32).toInt32).toUInt32.toUInt16.toUInt32.toInt32)), (nar .char (p5.toUInt32.toUInt16.toUInt32.toInt32)), (nar .char (((p5.toUInt32 >>> ((16 : Int32) &&& 31).toUInt32).toInt32).toUInt32.toUInt16.toUInt32.toInt32))] : List Int32).getD j 0)) ∧ [(.int (nar .char (p4.toUInt32.toUInt16.toUInt32.toInt32))), (.int (nar .char (((p4.toUInt32 >>> ((16 : Int32) &&& 31).toUInt32).toInt32).toUInt32.toUInt16.toUInt32.toInt32))), (.int (nar .char (p5.toUInt32.toUInt16.toUInt32.toInt32))), (.int (nar .char (((p5.toUInt32 >>> ((16 : Int32) &&& 31).toUInt32).toInt32).toUInt32.toUInt16.toUInt32.toInt32)))].getD j (Value.int (0 : Int32)) = .int (([(nar .char (p4.toUInt32.toUInt16.toUInt32.toInt32)), (nar .char (((p4.toUInt32 >>> ((16 : Int32) &&& 31).toUInt32).toInt32).toUInt32.toUInt16.toUInt32.toInt32)), (nar .char (p5.toUInt32.toUInt16.toUInt32.toInt32)), (nar .char (((p5.toUInt32 >>> ((16 : Int32) &&& 31).toUInt32).toInt32).toUInt32.toUInt16.toUInt32.toInt32))] : List Int32).getD j 0) := fun j hj => by
      have hj' : j < 4 := hj
      match j, hj' with
      | 0, _ => exact ⟨ct344, rfl⟩
      | 1, _ => exact ⟨ct345, rfl⟩
      | 2, _ => exact ⟨ct346, rfl⟩
      | 3, _ => exact ⟨ct347, rfl⟩
      | j + 4, h => exact absurd h (by omega)
    have K375 : ∀ t, Steps p.tables e below (T368.setTop (mkF m 209 #[.val (.int p1), .val (.int p2), .val (.int p3), .val (.int p4), .val (.int p5), .val (.int p6), .val (.int (4 : Int32)), .val (.ref b2), .val (.ref b30), .val (.int sa), .val (.int ea), .val (.int nl), .val (.ref b337)] [(.int ea), (.int sa), (.int nl), (.int (0 : Int32)), (.ref b2), (.ref b337)])) t → Steps p.tables e below G t := by
      intro t k
      refine K374 t ?_
      show Steps p.tables e below (T368.setTop (mkF m 198 #[.val (.int p1), .val (.int p2), .val (.int p3), .val (.int p4), .val (.int p5), .val (.int p6), .val (.int (4 : Int32)), .val (.ref b2), .val (.ref b30), .val (.int sa), .val (.int ea), .val (.int nl), .val (.ref b337)] [])) _
      refine XS.aload X368.here hx rfl (hb hby at_198) rfl rfl ?_
      show Steps p.tables e below (T368.setTop (mkF m 200 #[.val (.int p1), .val (.int p2), .val (.int p3), .val (.int p4), .val (.int p5), .val (.int p6), .val (.int (4 : Int32)), .val (.ref b2), .val (.ref b30), .val (.int sa), .val (.int ea), .val (.int nl), .val (.ref b337)] [(.ref b337)])) _
      refine XS.aload X368.here hx rfl (hb hby at_200) rfl rfl ?_
      show Steps p.tables e below (T368.setTop (mkF m 202 #[.val (.int p1), .val (.int p2), .val (.int p3), .val (.int p4), .val (.int p5), .val (.int p6), .val (.int (4 : Int32)), .val (.ref b2), .val (.ref b30), .val (.int sa), .val (.int ea), .val (.int nl), .val (.ref b337)] [(.ref b2), (.ref b337)])) _
      refine XS.iconst X368.here hx rfl (hb hby at_202) ?_
      show Steps p.tables e below (T368.setTop (mkF m 203 #[.val (.int p1), .val (.int p2), .val (.int p3), .val (.int p4), .val (.int p5), .val (.int p6), .val (.int (4 : Int32)), .val (.ref b2), .val (.ref b30), .val (.int sa), .val (.int ea), .val (.int nl), .val (.ref b337)] [(.int (0 : Int32)), (.ref b2), (.ref b337)])) _
      refine XS.iload X368.here hx rfl (hb hby at_203) rfl ?_
      show Steps p.tables e below (T368.setTop (mkF m 205 #[.val (.int p1), .val (.int p2), .val (.int p3), .val (.int p4), .val (.int p5), .val (.int p6), .val (.int (4 : Int32)), .val (.ref b2), .val (.ref b30), .val (.int sa), .val (.int ea), .val (.int nl), .val (.ref b337)] [(.int nl), (.int (0 : Int32)), (.ref b2), (.ref b337)])) _
      refine XS.iload X368.here hx rfl (hb hby at_205) rfl ?_
      show Steps p.tables e below (T368.setTop (mkF m 207 #[.val (.int p1), .val (.int p2), .val (.int p3), .val (.int p4), .val (.int p5), .val (.int p6), .val (.int (4 : Int32)), .val (.ref b2), .val (.ref b30), .val (.int sa), .val (.int ea), .val (.int nl), .val (.ref b337)] [(.int sa), (.int nl), (.int (0 : Int32)), (.ref b2), (.ref b337)])) _
      refine XS.iload X368.here hx rfl (hb hby at_207) rfl ?_
      show Steps p.tables e below (T368.setTop (mkF m 209 #[.val (.int p1), .val (.int p2), .val (.int p3), .val (.int p4), .val (.int p5), .val (.int p6), .val (.int (4 : Int32)), .val (.ref b2), .val (.ref b30), .val (.int sa), .val (.int ea), .val (.int nl), .val (.ref b337)] [(.int ea), (.int sa), (.int nl), (.int (0 : Int32)), (.ref b2), (.ref b337)])) _
      exact k
    obtain ⟨_, _, ⟨T376, L376, kk376, nn376⟩, -, X376, ⟨Lc376, hQ376, lq376, yq376, zq376⟩, st376⟩ := Jvm.LawKit.callS X368 hx (y := (⟨"org/arborlog/pattern/LineTextDeletePinLaw", "slotOk", "([C[CIIII)Z"⟩ : MethodName)) hown (mvT hZ (hw _ (List.mem_of_getElem? (i := 34) rfl))) (mvT hZ (hw _ (List.mem_of_getElem? (i := 35) rfl))) (mvT hZ (hw _ (List.mem_of_getElem? (i := 36) rfl))) (mvT hZ (hw _ (List.mem_of_getElem? (i := 37) rfl))) (by decide) (backOf (W := 0) (rm6 l Z a0 hw [] b337 b2 (0 : Int32) nl sa ea kb337 kn2 zb337 vs354 [(.int (nar .char (p4.toUInt32.toUInt16.toUInt32.toInt32))), (.int (nar .char (((p4.toUInt32 >>> ((16 : Int32) &&& 31).toUInt32).toInt32).toUInt32.toUInt16.toUInt32.toInt32))), (.int (nar .char (p5.toUInt32.toUInt16.toUInt32.toInt32))), (.int (nar .char (((p5.toUInt32 >>> ((16 : Int32) &&& 31).toUInt32).toInt32).toUInt32.toUInt16.toUInt32.toInt32)))] T354.heap n0 Z358 Vb354 f356 (own_slot 0 rfl (by decide) hB hz337.1 h_nl hA354 hB354 hf)) hZ (hw _ (List.mem_of_getElem? (i := 37) rfl)) (hw _ (List.mem_of_getElem? (i := 36) rfl)) (by decide) (by decide)) (g := (mkF m 209 #[.val (.int p1), .val (.int p2), .val (.int p3), .val (.int p4), .val (.int p5), .val (.int p6), .val (.int (4 : Int32)), .val (.ref b2), .val (.ref b30), .val (.int sa), .val (.int ea), .val (.int nl), .val (.ref b337)] [(.int ea), (.int sa), (.int nl), (.int (0 : Int32)), (.ref b2), (.ref b337)])) rfl (by rw [hml]; rfl) (argsL := [(.ref b337), (.ref b2), (.int (0 : Int32)), (.int nl), (.int sa), (.int ea)]) (rest := []) (lenOf pd_7 rfl) rfl (by show 2 * 0 + _ ≤ _; exact Nat.le_of_eq rfl) (hb hby at_209) (fun _ _ => ⟨rfl, e368, (by decide : 7 + 0 ≤ _), (by decide : 54 + 0 ≤ _)⟩)
    dsimp only [Pt.U, Pt.locs, Pt.cells, Pt.slots] at X376 lq376 yq376 zq376 st376 hQ376
    subst lq376 yq376 zq376
    obtain ⟨rfl, Nq376, e376⟩ := hQ376
    have N377 := Fr.app N369 Nq376
    have K378 : ∀ t, Steps p.tables e below (T376.setTop (mkF m 212 #[.val (.int p1), .val (.int p2), .val (.int p3), .val (.int p4), .val (.int p5), .val (.int p6), .val (.int (4 : Int32)), .val (.ref b2), .val (.ref b30), .val (.int sa), .val (.int ea), .val (.int nl), .val (.ref b337)] [(.int (1 : Int32))])) t → Steps p.tables e below G t := fun t k => K375 t (st376 _ k)
    have K379 : ∀ t, Steps p.tables e below (T376.setTop (mkF m 226 #[.val (.int p1), .val (.int p2), .val (.int p3), .val (.int p4), .val (.int p5), .val (.int p6), .val (.int (4 : Int32)), .val (.ref b2), .val (.ref b30), .val (.int sa), .val (.int ea), .val (.int nl), .val (.ref b337)] [(.int ea), (.int sa), (.int nl), (.int (1 : Int32)), (.ref b2), (.ref b337)])) t → Steps p.tables e below G t := by
      intro t k
      refine K378 t ?_
      show Steps p.tables e below (T376.setTop (mkF m 212 #[.val (.int p1), .val (.int p2), .val (.int p3), .val (.int p4), .val (.int p5), .val (.int p6), .val (.int (4 : Int32)), .val (.ref b2), .val (.ref b30), .val (.int sa), .val (.int ea), .val (.int nl), .val (.ref b337)] [(.int (1 : Int32))])) _
      refine XS.ifNo X376.here hx rfl (hb hby at_212) rfl ((if0 _ _).trans (feq (by decide)).1) ?_
      show Steps p.tables e below (T376.setTop (mkF m 215 #[.val (.int p1), .val (.int p2), .val (.int p3), .val (.int p4), .val (.int p5), .val (.int p6), .val (.int (4 : Int32)), .val (.ref b2), .val (.ref b30), .val (.int sa), .val (.int ea), .val (.int nl), .val (.ref b337)] [])) _
      refine XS.aload X376.here hx rfl (hb hby at_215) rfl rfl ?_
      show Steps p.tables e below (T376.setTop (mkF m 217 #[.val (.int p1), .val (.int p2), .val (.int p3), .val (.int p4), .val (.int p5), .val (.int p6), .val (.int (4 : Int32)), .val (.ref b2), .val (.ref b30), .val (.int sa), .val (.int ea), .val (.int nl), .val (.ref b337)] [(.ref b337)])) _
      refine XS.aload X376.here hx rfl (hb hby at_217) rfl rfl ?_
      show Steps p.tables e below (T376.setTop (mkF m 219 #[.val (.int p1), .val (.int p2), .val (.int p3), .val (.int p4), .val (.int p5), .val (.int p6), .val (.int (4 : Int32)), .val (.ref b2), .val (.ref b30), .val (.int sa), .val (.int ea), .val (.int nl), .val (.ref b337)] [(.ref b2), (.ref b337)])) _
      refine XS.iconst X376.here hx rfl (hb hby at_219) ?_
      show Steps p.tables e below (T376.setTop (mkF m 220 #[.val (.int p1), .val (.int p2), .val (.int p3), .val (.int p4), .val (.int p5), .val (.int p6), .val (.int (4 : Int32)), .val (.ref b2), .val (.ref b30), .val (.int sa), .val (.int ea), .val (.int nl), .val (.ref b337)] [(.int (1 : Int32)), (.ref b2), (.ref b337)])) _
      refine XS.iload X376.here hx rfl (hb hby at_220) rfl ?_
      show Steps p.tables e below (T376.setTop (mkF m 222 #[.val (.int p1), .val (.int p2), .val (.int p3), .val (.int p4), .val (.int p5), .val (.int p6), .val (.int (4 : Int32)), .val (.ref b2), .val (.ref b30), .val (.int sa), .val (.int ea), .val (.int nl), .val (.ref b337)] [(.int nl), (.int (1 : Int32)), (.ref b2), (.ref b337)])) _
      refine XS.iload X376.here hx rfl (hb hby at_222) rfl ?_
      show Steps p.tables e below (T376.setTop (mkF m 224 #[.val (.int p1), .val (.int p2), .val (.int p3), .val (.int p4), .val (.int p5), .val (.int p6), .val (.int (4 : Int32)), .val (.ref b2), .val (.ref b30), .val (.int sa), .val (.int ea), .val (.int nl), .val (.ref b337)] [(.int sa), (.int nl), (.int (1 : Int32)), (.ref b2), (.ref b337)])) _
      refine XS.iload X376.here hx rfl (hb hby at_224) rfl ?_
      show Steps p.tables e below (T376.setTop (mkF m 226 #[.val (.int p1), .val (.int p2), .val (.int p3), .val (.int p4), .val (.int p5), .val (.int p6), .val (.int (4 : Int32)), .val (.ref b2), .val (.ref b30), .val (.int sa), .val (.int ea), .val (.int nl), .val (.ref b337)] [(.int ea), (.int sa), (.int nl), (.int (1 : Int32)), (.ref b2), (.ref b337)])) _
      exact k
    obtain ⟨_, _, ⟨T380, L380, kk380, nn380⟩, -, X380, ⟨Lc380, hQ380, lq380, yq380, zq380⟩, st380⟩ := Jvm.LawKit.callS X376 hx (y := (⟨"org/arborlog/pattern/LineTextDeletePinLaw", "slotOk", "([C[CIIII)Z"⟩ : MethodName)) hown (mvT hZ (hw _ (List.mem_of_getElem? (i := 34) rfl))) (mvT hZ (hw _ (List.mem_of_getElem? (i := 35) rfl))) (mvT hZ (hw _ (List.mem_of_getElem? (i := 36) rfl))) (mvT hZ (hw _ (List.mem_of_getElem? (i := 37) rfl))) (by decide) (backOf (W := 0) (rm6 l Z a0 hw [] b337 b2 (1 : Int32) nl sa ea kb337 kn2 zb337 vs354 [(.int (nar .char (p4.toUInt32.toUInt16.toUInt32.toInt32))), (.int (nar .char (((p4.toUInt32 >>> ((16 : Int32) &&& 31).toUInt32).toInt32).toUInt32.toUInt16.toUInt32.toInt32))), (.int (nar .char (p5.toUInt32.toUInt16.toUInt32.toInt32))), (.int (nar .char (((p5.toUInt32 >>> ((16 : Int32) &&& 31).toUInt32).toInt32).toUInt32.toUInt16.toUInt32.toInt32)))] T354.heap n0 Z358 Vb354 f356 (own_slot 1 rfl (by decide) hB hz337.1 h_nl hA354 hB354 hf)) hZ (hw _ (List.mem_of_getElem? (i := 37) rfl)) (hw _ (List.mem_of_getElem? (i := 36) rfl)) (by decide) (by decide)) (g := (mkF m 226 #[.val (.int p1), .val (.int p2), .val (.int p3), .val (.int p4), .val (.int p5), .val (.int p6), .val (.int (4 : Int32)), .val (.ref b2), .val (.ref b30), .val (.int sa), .val (.int ea), .val (.int nl), .val (.ref b337)] [(.int ea), (.int sa), (.int nl), (.int (1 : Int32)), (.ref b2), (.ref b337)])) rfl (by rw [hml]; rfl) (argsL := [(.ref b337), (.ref b2), (.int (1 : Int32)), (.int nl), (.int sa), (.int ea)]) (rest := []) (lenOf pd_7 rfl) rfl (by show 2 * 0 + _ ≤ _; exact Nat.le_of_eq rfl) (hb hby at_226) (fun _ _ => ⟨rfl, e376, (by decide : 7 + 0 ≤ _), (by decide : 54 + 0 ≤ _)⟩)
    dsimp only [Pt.U, Pt.locs, Pt.cells, Pt.slots] at X380 lq380 yq380 zq380 st380 hQ380
    subst lq380 yq380 zq380
    obtain ⟨rfl, Nq380, e380⟩ := hQ380
    have N381 := Fr.app N377 Nq380
    have K382 : ∀ t, Steps p.tables e below (T380.setTop (mkF m 229 #[.val (.int p1), .val (.int p2), .val (.int p3), .val (.int p4), .val (.int p5), .val (.int p6), .val (.int (4 : Int32)), .val (.ref b2), .val (.ref b30), .val (.int sa), .val (.int ea), .val (.int nl), .val (.ref b337)] [(.int (1 : Int32))])) t → Steps p.tables e below G t := fun t k => K379 t (st380 _ k)
    have K383 : ∀ t, Steps p.tables e below (T380.setTop (mkF m 243 #[.val (.int p1), .val (.int p2), .val (.int p3), .val (.int p4), .val (.int p5), .val (.int p6), .val (.int (4 : Int32)), .val (.ref b2), .val (.ref b30), .val (.int sa), .val (.int ea), .val (.int nl), .val (.ref b337)] [(.int ea), (.int sa), (.int nl), (.int (2 : Int32)), (.ref b2), (.ref b337)])) t → Steps p.tables e below G t := by
      intro t k
      refine K382 t ?_
      show Steps p.tables e below (T380.setTop (mkF m 229 #[.val (.int p1), .val (.int p2), .val (.int p3), .val (.int p4), .val (.int p5), .val (.int p6), .val (.int (4 : Int32)), .val (.ref b2), .val (.ref b30), .val (.int sa), .val (.int ea), .val (.int nl), .val (.ref b337)] [(.int (1 : Int32))])) _
      refine XS.ifNo X380.here hx rfl (hb hby at_229) rfl ((if0 _ _).trans (feq (by decide)).1) ?_
      show Steps p.tables e below (T380.setTop (mkF m 232 #[.val (.int p1), .val (.int p2), .val (.int p3), .val (.int p4), .val (.int p5), .val (.int p6), .val (.int (4 : Int32)), .val (.ref b2), .val (.ref b30), .val (.int sa), .val (.int ea), .val (.int nl), .val (.ref b337)] [])) _
      refine XS.aload X380.here hx rfl (hb hby at_232) rfl rfl ?_
      show Steps p.tables e below (T380.setTop (mkF m 234 #[.val (.int p1), .val (.int p2), .val (.int p3), .val (.int p4), .val (.int p5), .val (.int p6), .val (.int (4 : Int32)), .val (.ref b2), .val (.ref b30), .val (.int sa), .val (.int ea), .val (.int nl), .val (.ref b337)] [(.ref b337)])) _
      refine XS.aload X380.here hx rfl (hb hby at_234) rfl rfl ?_
      show Steps p.tables e below (T380.setTop (mkF m 236 #[.val (.int p1), .val (.int p2), .val (.int p3), .val (.int p4), .val (.int p5), .val (.int p6), .val (.int (4 : Int32)), .val (.ref b2), .val (.ref b30), .val (.int sa), .val (.int ea), .val (.int nl), .val (.ref b337)] [(.ref b2), (.ref b337)])) _
      refine XS.iconst X380.here hx rfl (hb hby at_236) ?_
      show Steps p.tables e below (T380.setTop (mkF m 237 #[.val (.int p1), .val (.int p2), .val (.int p3), .val (.int p4), .val (.int p5), .val (.int p6), .val (.int (4 : Int32)), .val (.ref b2), .val (.ref b30), .val (.int sa), .val (.int ea), .val (.int nl), .val (.ref b337)] [(.int (2 : Int32)), (.ref b2), (.ref b337)])) _
      refine XS.iload X380.here hx rfl (hb hby at_237) rfl ?_
      show Steps p.tables e below (T380.setTop (mkF m 239 #[.val (.int p1), .val (.int p2), .val (.int p3), .val (.int p4), .val (.int p5), .val (.int p6), .val (.int (4 : Int32)), .val (.ref b2), .val (.ref b30), .val (.int sa), .val (.int ea), .val (.int nl), .val (.ref b337)] [(.int nl), (.int (2 : Int32)), (.ref b2), (.ref b337)])) _
      refine XS.iload X380.here hx rfl (hb hby at_239) rfl ?_
      show Steps p.tables e below (T380.setTop (mkF m 241 #[.val (.int p1), .val (.int p2), .val (.int p3), .val (.int p4), .val (.int p5), .val (.int p6), .val (.int (4 : Int32)), .val (.ref b2), .val (.ref b30), .val (.int sa), .val (.int ea), .val (.int nl), .val (.ref b337)] [(.int sa), (.int nl), (.int (2 : Int32)), (.ref b2), (.ref b337)])) _
      refine XS.iload X380.here hx rfl (hb hby at_241) rfl ?_
      show Steps p.tables e below (T380.setTop (mkF m 243 #[.val (.int p1), .val (.int p2), .val (.int p3), .val (.int p4), .val (.int p5), .val (.int p6), .val (.int (4 : Int32)), .val (.ref b2), .val (.ref b30), .val (.int sa), .val (.int ea), .val (.int nl), .val (.ref b337)] [(.int ea), (.int sa), (.int nl), (.int (2 : Int32)), (.ref b2), (.ref b337)])) _
      exact k
    obtain ⟨_, _, ⟨T384, L384, kk384, nn384⟩, -, X384, ⟨Lc384, hQ384, lq384, yq384, zq384⟩, st384⟩ := Jvm.LawKit.callS X380 hx (y := (⟨"org/arborlog/pattern/LineTextDeletePinLaw", "slotOk", "([C[CIIII)Z"⟩ : MethodName)) hown (mvT hZ (hw _ (List.mem_of_getElem? (i := 34) rfl))) (mvT hZ (hw _ (List.mem_of_getElem? (i := 35) rfl))) (mvT hZ (hw _ (List.mem_of_getElem? (i := 36) rfl))) (mvT hZ (hw _ (List.mem_of_getElem? (i := 37) rfl))) (by decide) (backOf (W := 0) (rm6 l Z a0 hw [] b337 b2 (2 : Int32) nl sa ea kb337 kn2 zb337 vs354 [(.int (nar .char (p4.toUInt32.toUInt16.toUInt32.toInt32))), (.int (nar .char (((p4.toUInt32 >>> ((16 : Int32) &&& 31).toUInt32).toInt32).toUInt32.toUInt16.toUInt32.toInt32))), (.int (nar .char (p5.toUInt32.toUInt16.toUInt32.toInt32))), (.int (nar .char (((p5.toUInt32 >>> ((16 : Int32) &&& 31).toUInt32).toInt32).toUInt32.toUInt16.toUInt32.toInt32)))] T354.heap n0 Z358 Vb354 f356 (own_slot 2 rfl (by decide) hB hz337.1 h_nl hA354 hB354 hf)) hZ (hw _ (List.mem_of_getElem? (i := 37) rfl)) (hw _ (List.mem_of_getElem? (i := 36) rfl)) (by decide) (by decide)) (g := (mkF m 243 #[.val (.int p1), .val (.int p2), .val (.int p3), .val (.int p4), .val (.int p5), .val (.int p6), .val (.int (4 : Int32)), .val (.ref b2), .val (.ref b30), .val (.int sa), .val (.int ea), .val (.int nl), .val (.ref b337)] [(.int ea), (.int sa), (.int nl), (.int (2 : Int32)), (.ref b2), (.ref b337)])) rfl (by rw [hml]; rfl) (argsL := [(.ref b337), (.ref b2), (.int (2 : Int32)), (.int nl), (.int sa), (.int ea)]) (rest := []) (lenOf pd_7 rfl) rfl (by show 2 * 0 + _ ≤ _; exact Nat.le_of_eq rfl) (hb hby at_243) (fun _ _ => ⟨rfl, e380, (by decide : 7 + 0 ≤ _), (by decide : 54 + 0 ≤ _)⟩)
    dsimp only [Pt.U, Pt.locs, Pt.cells, Pt.slots] at X384 lq384 yq384 zq384 st384 hQ384
    subst lq384 yq384 zq384
    obtain ⟨rfl, Nq384, e384⟩ := hQ384
    have N385 := Fr.app N381 Nq384
    have K386 : ∀ t, Steps p.tables e below (T384.setTop (mkF m 246 #[.val (.int p1), .val (.int p2), .val (.int p3), .val (.int p4), .val (.int p5), .val (.int p6), .val (.int (4 : Int32)), .val (.ref b2), .val (.ref b30), .val (.int sa), .val (.int ea), .val (.int nl), .val (.ref b337)] [(.int (1 : Int32))])) t → Steps p.tables e below G t := fun t k => K383 t (st384 _ k)
    have K387 : ∀ t, Steps p.tables e below (T384.setTop (mkF m 260 #[.val (.int p1), .val (.int p2), .val (.int p3), .val (.int p4), .val (.int p5), .val (.int p6), .val (.int (4 : Int32)), .val (.ref b2), .val (.ref b30), .val (.int sa), .val (.int ea), .val (.int nl), .val (.ref b337)] [(.int ea), (.int sa), (.int nl), (.int (3 : Int32)), (.ref b2), (.ref b337)])) t → Steps p.tables e below G t := by
      intro t k
      refine K386 t ?_
      show Steps p.tables e below (T384.setTop (mkF m 246 #[.val (.int p1), .val (.int p2), .val (.int p3), .val (.int p4), .val (.int p5), .val (.int p6), .val (.int (4 : Int32)), .val (.ref b2), .val (.ref b30), .val (.int sa), .val (.int ea), .val (.int nl), .val (.ref b337)] [(.int (1 : Int32))])) _
      refine XS.ifNo X384.here hx rfl (hb hby at_246) rfl ((if0 _ _).trans (feq (by decide)).1) ?_
      show Steps p.tables e below (T384.setTop (mkF m 249 #[.val (.int p1), .val (.int p2), .val (.int p3), .val (.int p4), .val (.int p5), .val (.int p6), .val (.int (4 : Int32)), .val (.ref b2), .val (.ref b30), .val (.int sa), .val (.int ea), .val (.int nl), .val (.ref b337)] [])) _
      refine XS.aload X384.here hx rfl (hb hby at_249) rfl rfl ?_
      show Steps p.tables e below (T384.setTop (mkF m 251 #[.val (.int p1), .val (.int p2), .val (.int p3), .val (.int p4), .val (.int p5), .val (.int p6), .val (.int (4 : Int32)), .val (.ref b2), .val (.ref b30), .val (.int sa), .val (.int ea), .val (.int nl), .val (.ref b337)] [(.ref b337)])) _
      refine XS.aload X384.here hx rfl (hb hby at_251) rfl rfl ?_
      show Steps p.tables e below (T384.setTop (mkF m 253 #[.val (.int p1), .val (.int p2), .val (.int p3), .val (.int p4), .val (.int p5), .val (.int p6), .val (.int (4 : Int32)), .val (.ref b2), .val (.ref b30), .val (.int sa), .val (.int ea), .val (.int nl), .val (.ref b337)] [(.ref b2), (.ref b337)])) _
      refine XS.iconst X384.here hx rfl (hb hby at_253) ?_
      show Steps p.tables e below (T384.setTop (mkF m 254 #[.val (.int p1), .val (.int p2), .val (.int p3), .val (.int p4), .val (.int p5), .val (.int p6), .val (.int (4 : Int32)), .val (.ref b2), .val (.ref b30), .val (.int sa), .val (.int ea), .val (.int nl), .val (.ref b337)] [(.int (3 : Int32)), (.ref b2), (.ref b337)])) _
      refine XS.iload X384.here hx rfl (hb hby at_254) rfl ?_
      show Steps p.tables e below (T384.setTop (mkF m 256 #[.val (.int p1), .val (.int p2), .val (.int p3), .val (.int p4), .val (.int p5), .val (.int p6), .val (.int (4 : Int32)), .val (.ref b2), .val (.ref b30), .val (.int sa), .val (.int ea), .val (.int nl), .val (.ref b337)] [(.int nl), (.int (3 : Int32)), (.ref b2), (.ref b337)])) _
      refine XS.iload X384.here hx rfl (hb hby at_256) rfl ?_
      show Steps p.tables e below (T384.setTop (mkF m 258 #[.val (.int p1), .val (.int p2), .val (.int p3), .val (.int p4), .val (.int p5), .val (.int p6), .val (.int (4 : Int32)), .val (.ref b2), .val (.ref b30), .val (.int sa), .val (.int ea), .val (.int nl), .val (.ref b337)] [(.int sa), (.int nl), (.int (3 : Int32)), (.ref b2), (.ref b337)])) _
      refine XS.iload X384.here hx rfl (hb hby at_258) rfl ?_
      show Steps p.tables e below (T384.setTop (mkF m 260 #[.val (.int p1), .val (.int p2), .val (.int p3), .val (.int p4), .val (.int p5), .val (.int p6), .val (.int (4 : Int32)), .val (.ref b2), .val (.ref b30), .val (.int sa), .val (.int ea), .val (.int nl), .val (.ref b337)] [(.int ea), (.int sa), (.int nl), (.int (3 : Int32)), (.ref b2), (.ref b337)])) _
      exact k
    obtain ⟨_, _, ⟨T388, L388, kk388, nn388⟩, -, X388, ⟨Lc388, hQ388, lq388, yq388, zq388⟩, st388⟩ := Jvm.LawKit.callS X384 hx (y := (⟨"org/arborlog/pattern/LineTextDeletePinLaw", "slotOk", "([C[CIIII)Z"⟩ : MethodName)) hown (mvT hZ (hw _ (List.mem_of_getElem? (i := 34) rfl))) (mvT hZ (hw _ (List.mem_of_getElem? (i := 35) rfl))) (mvT hZ (hw _ (List.mem_of_getElem? (i := 36) rfl))) (mvT hZ (hw _ (List.mem_of_getElem? (i := 37) rfl))) (by decide) (backOf (W := 0) (rm6 l Z a0 hw [] b337 b2 (3 : Int32) nl sa ea kb337 kn2 zb337 vs354 [(.int (nar .char (p4.toUInt32.toUInt16.toUInt32.toInt32))), (.int (nar .char (((p4.toUInt32 >>> ((16 : Int32) &&& 31).toUInt32).toInt32).toUInt32.toUInt16.toUInt32.toInt32))), (.int (nar .char (p5.toUInt32.toUInt16.toUInt32.toInt32))), (.int (nar .char (((p5.toUInt32 >>> ((16 : Int32) &&& 31).toUInt32).toInt32).toUInt32.toUInt16.toUInt32.toInt32)))] T354.heap n0 Z358 Vb354 f356 (own_slot 3 rfl (by decide) hB hz337.1 h_nl hA354 hB354 hf)) hZ (hw _ (List.mem_of_getElem? (i := 37) rfl)) (hw _ (List.mem_of_getElem? (i := 36) rfl)) (by decide) (by decide)) (g := (mkF m 260 #[.val (.int p1), .val (.int p2), .val (.int p3), .val (.int p4), .val (.int p5), .val (.int p6), .val (.int (4 : Int32)), .val (.ref b2), .val (.ref b30), .val (.int sa), .val (.int ea), .val (.int nl), .val (.ref b337)] [(.int ea), (.int sa), (.int nl), (.int (3 : Int32)), (.ref b2), (.ref b337)])) rfl (by rw [hml]; rfl) (argsL := [(.ref b337), (.ref b2), (.int (3 : Int32)), (.int nl), (.int sa), (.int ea)]) (rest := []) (lenOf pd_7 rfl) rfl (by show 2 * 0 + _ ≤ _; exact Nat.le_of_eq rfl) (hb hby at_260) (fun _ _ => ⟨rfl, e384, (by decide : 7 + 0 ≤ _), (by decide : 54 + 0 ≤ _)⟩)
    dsimp only [Pt.U, Pt.locs, Pt.cells, Pt.slots] at X388 lq388 yq388 zq388 st388 hQ388
    subst lq388 yq388 zq388
    obtain ⟨rfl, Nq388, e388⟩ := hQ388
    have N389 := Fr.app N385 Nq388
    have K390 : ∀ t, Steps p.tables e below (T388.setTop (mkF m 263 #[.val (.int p1), .val (.int p2), .val (.int p3), .val (.int p4), .val (.int p5), .val (.int p6), .val (.int (4 : Int32)), .val (.ref b2), .val (.ref b30), .val (.int sa), .val (.int ea), .val (.int nl), .val (.ref b337)] [(.int (1 : Int32))])) t → Steps p.tables e below G t := fun t k => K387 t (st388 _ k)
    obtain ⟨fs, hr, hrun, hended, hW, hsame⟩ := X388.leave (v := some (.int (1 : Int32))) (fun h => by rw [Bd.returns] at h; cases h)
    have KF := K390
    rw [hG] at KF
    refine ⟨_, _, KF _ ?_, hrun, hended, _, _, rfl, ?_, ⟨_, rfl⟩, hW, hsame.mono (by decide) (by decide)⟩
    · show Steps p.tables e below (T388.setTop (mkF m 263 #[.val (.int p1), .val (.int p2), .val (.int p3), .val (.int p4), .val (.int p5), .val (.int p6), .val (.int (4 : Int32)), .val (.ref b2), .val (.ref b30), .val (.int sa), .val (.int ea), .val (.int nl), .val (.ref b337)] [(.int (1 : Int32))])) _
      refine XS.ifNo X388.here hx rfl (hb hby at_263) rfl ((if0 _ _).trans (feq (by decide)).1) ?_
      show Steps p.tables e below (T388.setTop (mkF m 266 #[.val (.int p1), .val (.int p2), .val (.int p3), .val (.int p4), .val (.int p5), .val (.int p6), .val (.int (4 : Int32)), .val (.ref b2), .val (.ref b30), .val (.int sa), .val (.int ea), .val (.int nl), .val (.ref b337)] [])) _
      refine XS.iconst X388.here hx rfl (hb hby at_266) ?_
      show Steps p.tables e below (T388.setTop (mkF m 267 #[.val (.int p1), .val (.int p2), .val (.int p3), .val (.int p4), .val (.int p5), .val (.int p6), .val (.int (4 : Int32)), .val (.ref b2), .val (.ref b30), .val (.int sa), .val (.int ea), .val (.int nl), .val (.ref b337)] [(.int (1 : Int32))])) _
      refine XS.goto X388.here hx rfl (pc0 := 267) (pc' := 271) rfl (hb hby at_267) (by decide) (by decide) ?_
      show Steps p.tables e below (T388.setTop (mkF m 271 #[.val (.int p1), .val (.int p2), .val (.int p3), .val (.int p4), .val (.int p5), .val (.int p6), .val (.int (4 : Int32)), .val (.ref b2), .val (.ref b30), .val (.int sa), .val (.int ea), .val (.int nl), .val (.ref b337)] [(.int (1 : Int32))])) _
      exact retN X388 hx (t := .boolean) Bd.returns (by simp) (hb hby at_271) hr
    · show Q0 n0 _ T388.heap _
      rw [e388]
      exact ⟨rfl, N389⟩
set_option maxRecDepth 65536 in
set_option maxHeartbeats 40000000 in
theorem comes_1 {Post : Tables → Env → Array Value → State → Outcome → State → Prop} (hpost : ∀ tb e args s v u, (limb_1_1.after args s (.returned v) u = true ∧ limb_1_2.after args s (.returned v) u = true ∧ True) → FrameEnd s (.returned v) u (Jvm.fieldLocs frame_1_writes args s ++ Jvm.arrayLocs frame_1_arrays args s ++ Jvm.staticLocs frame_1_statics s) 24 128 → Post tb e args s (.returned v) u) :
    ArmFor flags0 classFile x code maxLocals ret World_1 tables_1 room_1 Calls_1 rest_1 Pre_1 Post := by
  intro l hfl _ _ p e ha hc hk s m args below hf hA hF happ hP
  obtain ⟨hcalls, hrest, hpre⟩ := hP
  obtain ⟨-, -, -, hnamed, -, -, -, hat⟩ := (Spec.applies_iff hf).mp happ
  obtain ⟨hg, hn⟩ := and_e (Cond.before_iff.mp (show (Jvm.Cond.and given_1 narrow_1).before args s = true from hpre))
  obtain ⟨gc, gr0⟩ := and_e hg
  obtain ⟨ga0, gr1⟩ := and_e gr0
  obtain ⟨ga1, gr2⟩ := and_e gr1
  obtain ⟨ga2, gr3⟩ := and_e gr2
  obtain ⟨ga3, gr4⟩ := and_e gr3
  obtain ⟨ga4, gr5⟩ := and_e gr4
  have ga5 := gr5
  obtain ⟨w0, w1, w2, w3, w4, w5, rfl⟩ : ∃ w0 w1 w2 w3 w4 w5 : Value, args = #[w0, w1, w2, w3, w4, w5] := by
    have hs : args.size = 6 := by simpa [Cond.value, given_1] using gc
    obtain ⟨L⟩ := args
    match L, hs with
    | [w0, w1, w2, w3, w4, w5], _ => exact ⟨w0, w1, w2, w3, w4, w5, rfl⟩
  have hw := fun d (hd : d ∈ tables_1) => atoms_spec (ws := Jvm.Cond.code x code maxLocals ret :: tables_1) hat d (List.mem_cons_of_mem _ hd)
  have hfit : Fit s := fun {y c} hc i hi => by
    obtain ⟨ha, rfl⟩ := Array.getElem?_eq_some_iff.mp hc
    have q := List.all_eq_true.mp ((Array.all_eq_true_iff_forall_mem.mp hF) _ (Array.getElem_mem ha)) i (List.mem_range.mpr hi)
    simpa [Array.getElem?_eq_getElem hi] using q
  obtain ⟨i0, ei0⟩ := is_v ga0
  obtain rfl : w0 = (.int i0) := Option.some.inj ei0
  obtain ⟨i1, ei1⟩ := is_v ga1
  obtain rfl : w1 = (.int i1) := Option.some.inj ei1
  obtain ⟨i2, ei2⟩ := is_v ga2
  obtain rfl : w2 = (.int i2) := Option.some.inj ei2
  obtain ⟨i3, ei3⟩ := is_v ga3
  obtain rfl : w3 = (.int i3) := Option.some.inj ei3
  obtain ⟨i4, ei4⟩ := is_v ga4
  obtain rfl : w4 = (.int i4) := Option.some.inj ei4
  obtain ⟨i5, ei5⟩ := is_v ga5
  obtain rfl : w5 = (.int i5) := Option.some.inj ei5
  obtain ⟨n, o, h1, h2, h3, _, L, rfl, ⟨rfl, N⟩, hq⟩ := rm0 l s _ hw tables_1 i0 i1 i2 i3 i4 i5  s.heap s.heap.size (Nat.le_refl _)  p e ha hc hk s m _ below hf ((Spec.applies_iff_loose hf).mp happ).1 ⟨rfl, State.Warmed39.refl s, rfl⟩ trivial
  refine ⟨n, _, h1, h2, h3, hpost _ _ _ _ _ _ ⟨Cond.after_iff.mpr rfl, Cond.after_iff.mpr (eq_i res_at (Term.int_eval (1)) rfl), trivial⟩ ⟨hq.1, hq.2.1, (hq.2.2.sift fun y hy => Or.inr (N y hy)).mono (by decide) (by decide)⟩⟩
theorem main_1_1 : Claimed_1_1 := comes_1 fun _ _ _ _ _ _ h hF => ⟨h.1, hF⟩
theorem main_1_2 : Claimed_1_2 := comes_1 fun _ _ _ _ _ _ h hF => ⟨h.2.1, hF⟩
end Jvm.Pilot.@@N@@
namespace Jvm.Pilot.@@N@@
open Jvm Jvm.ClassFile Sem Op Lib Jvm.Free Jvm.Stand Jvm.Pilot.@@N@@.Jvm.D
/-! MADE BY PROGRAM (witnessworld.py) out of the Statement's table words and the real class files: 14 classes; the members and pool entries that the words name. The judged class is class 1, her method 3. -/
namespace start1
open Jvm.ClassFile
def u (s : String) : CpInfo := .utf8 (stringToUtf16 s)
/-- a pool by its gaps: so many unusable entries, then the entry; so many at the end -/
def gap : Nat → List CpInfo → List CpInfo
  | 0, r => r
  | n + 1, r => .unusable :: gap n r
def poolList (es : List (Nat × CpInfo)) (last : Nat) : List CpInfo := es.foldr (fun e r => gap e.1 (e.2 :: r)) (gap last [])
def pool (es : List (Nat × CpInfo)) (last : Nat) : Array CpInfo := ⟨poolList es last⟩
def fileOf (pool : Array CpInfo) (this : Nat) (attrs : Array Attribute := #[]) (ms : Array MethodInfo := #[]) (fl : Nat := 33) (sup : Nat := 0) (ifs : Array Nat := #[]) (fds : Array FieldInfo := #[]) : ClassFile where
  minorVersion := 0
  majorVersion := 65
  constantPool := pool
  accessFlags := fl
  thisClass := this
  superClass := sup
  interfaces := ifs
  fields := fds
  methods := ms
  attributes := attrs
def plain (name : String) (sup : Option ClassId) : Class where
  name := name
  kind := .ordinary
  loader := none
  accessFlags := 33
  super := sup
  interfaces := #[]
  cf := none
  fields := #[]
  methods := #[]
  instanceTypes := #[]
  staticTypes := #[]
  resolved := #[]
  callSites := []
  init := .initialized
  statics := none
  mirror := none

def pool0 : Array CpInfo := pool [(5, u "<init>"), (0, u "()V"), (1, .class_ 10), (1, u "java/lang/Object")] 113

def k0c0 : Code := { maxStack := 0, maxLocals := 1, code := object_method_1_code, exceptionTable := #[], attributes := #[] }
def k0m0 : Method := { name := "<init>", desc := "()V", sig := { parameters := [], returnType := none }, accessFlags := 1, code := some k0c0 }
/-- java/lang/Object -/
def k0 : Class := { plain "java/lang/Object" none with
  accessFlags := 33
  interfaces := #[]
  cf := some (fileOf pool0 8 #[] #[{ accessFlags := 1, nameIndex := 5, descriptorIndex := 6, attributes := #[] }] 33 0 #[] #[])
  fields := #[]
  methods := #[k0m0]
  instanceTypes := #[]
  staticTypes := #[]
  resolved := Array.replicate 124 none
  statics := none }

def pool1 : Array CpInfo := pool [(2, .class_ 4), (1, u "java/lang/Object"), (0, u "<init>"), (0, u "()V"), (0, .methodref 8 9), (0, .class_ 10), (0, .nameAndType 11 12), (0, u "org/arborlog/pattern/LineTextDeletePinLaw"), (0, u "expect"), (0, u "([CIII)C"), (0, .integer 2147483647), (0, .class_ 15), (0, u "org/arborlog/pattern/LineText"), (0, .methodref 14 17), (0, .nameAndType 5 18), (0, u "(I)V"), (0, .methodref 14 20), (0, .nameAndType 21 22), (0, u "append"), (0, u "(C)Lorg/arborlog/pattern/LineText;"), (0, .methodref 14 24), (0, .nameAndType 25 26), (0, u "delete"), (0, u "(II)V"), (0, .methodref 14 28), (0, .nameAndType 29 30), (0, u "length"), (0, u "()I"), (0, .methodref 14 32), (0, .nameAndType 33 34), (0, u "chars"), (0, u "()[C"), (0, .methodref 8 36), (0, .nameAndType 37 38), (0, u "slotOk"), (0, u "([C[CIIII)Z"), (3, u "law"), (0, u "(IIIIII)Z")] 4

def k1m0 : Method := { name := "<init>", desc := "()V", sig := { parameters := [], returnType := none }, accessFlags := 1, code := none }
def k1c1 : Code := { maxStack := 4, maxLocals := 4, code := method_2_code, exceptionTable := #[], attributes := #[] }
def k1m1 : Method := { name := "expect", desc := "([CIII)C", sig := { parameters := [(.array .char), .int, .int, .int], returnType := some .char }, accessFlags := 10, code := some k1c1 }
def k1c2 : Code := { maxStack := 5, maxLocals := 6, code := method_3_code, exceptionTable := #[], attributes := #[] }
def k1m2 : Method := { name := "slotOk", desc := "([C[CIIII)Z", sig := { parameters := [(.array .char), (.array .char), .int, .int, .int, .int], returnType := some .boolean }, accessFlags := 10, code := some k1c2 }
def k1c3 : Code := { maxStack := 6, maxLocals := 13, code := code, exceptionTable := #[], attributes := #[] }
def k1m3 : Method := { name := "law", desc := "(IIIIII)Z", sig := { parameters := [.int, .int, .int, .int, .int, .int], returnType := some .boolean }, accessFlags := 9, code := some k1c3 }
/-- org/arborlog/pattern/LineTextDeletePinLaw -/
def k1 : Class := { plain "org/arborlog/pattern/LineTextDeletePinLaw" (some 0) with
  accessFlags := 49
  interfaces := #[]
  cf := some (fileOf pool1 8 #[] #[{ accessFlags := 1, nameIndex := 5, descriptorIndex := 6, attributes := #[] }, { accessFlags := 10, nameIndex := 11, descriptorIndex := 12, attributes := #[] }, { accessFlags := 10, nameIndex := 37, descriptorIndex := 38, attributes := #[] }, { accessFlags := 9, nameIndex := 42, descriptorIndex := 43, attributes := #[] }] 49 2 #[] #[])
  fields := #[]
  methods := #[k1m0, k1m1, k1m2, k1m3]
  instanceTypes := #[]
  staticTypes := #[]
  resolved := Array.replicate 48 none
  statics := none }

def pool2 : Array CpInfo := pool [(1, .methodref 2 3), (0, .class_ 4), (0, .nameAndType 5 6), (0, u "java/lang/Object"), (0, u "<init>"), (0, u "()V"), (0, .fieldref 8 9), (0, .class_ 10), (0, .nameAndType 11 12), (0, u "org/arborlog/pattern/LineText"), (0, u "chars"), (0, u "[C"), (0, .fieldref 8 14), (0, .nameAndType 15 16), (0, u "length"), (0, u "I"), (6, u "()I"), (0, .methodref 8 25), (0, .nameAndType 26 27), (0, u "ensureCapacity"), (0, u "(I)V"), (12, u "append"), (1, .methodref 43 44), (0, .class_ 45), (0, .nameAndType 46 47), (0, u "java/lang/System"), (0, u "arraycopy"), (0, u "(Ljava/lang/Object;ILjava/lang/Object;II)V"), (17, .methodref 66 67), (0, .class_ 68), (0, .nameAndType 69 70), (0, u "java/lang/Math"), (0, u "max"), (0, u "(II)I"), (0, .methodref 72 73), (0, .class_ 74), (0, .nameAndType 75 76), (0, u "java/util/Arrays"), (0, u "copyOf"), (0, u "([CI)[C"), (6, u "()[C"), (2, u "(C)Lorg/arborlog/pattern/LineText;"), (2, u "delete"), (0, u "(II)V")] 6

def k2c0 : Code := { maxStack := 2, maxLocals := 2, code := prog_20_method_1_code, exceptionTable := #[], attributes := #[] }
def k2m0 : Method := { name := "<init>", desc := "(I)V", sig := { parameters := [.int], returnType := none }, accessFlags := 1, code := some k2c0 }
def k2c1 : Code := { maxStack := 1, maxLocals := 1, code := prog_20_method_2_code, exceptionTable := #[], attributes := #[] }
def k2m1 : Method := { name := "length", desc := "()I", sig := { parameters := [], returnType := some .int }, accessFlags := 1, code := some k2c1 }
def k2c2 : Code := { maxStack := 1, maxLocals := 1, code := prog_20_method_4_code, exceptionTable := #[], attributes := #[] }
def k2m2 : Method := { name := "chars", desc := "()[C", sig := { parameters := [], returnType := some (.array .char) }, accessFlags := 1, code := some k2c2 }
def k2c3 : Code := { maxStack := 5, maxLocals := 2, code := prog_20_method_7_code, exceptionTable := #[], attributes := #[] }
def k2m3 : Method := { name := "append", desc := "(C)Lorg/arborlog/pattern/LineText;", sig := { parameters := [.char], returnType := some (.object "org/arborlog/pattern/LineText") }, accessFlags := 1, code := some k2c3 }
def k2c4 : Code := { maxStack := 6, maxLocals := 3, code := prog_20_method_10_code, exceptionTable := #[], attributes := #[] }
def k2m4 : Method := { name := "delete", desc := "(II)V", sig := { parameters := [.int, .int], returnType := none }, accessFlags := 0, code := some k2c4 }
def k2c5 : Code := { maxStack := 5, maxLocals := 2, code := prog_20_method_14_code, exceptionTable := #[], attributes := #[] }
def k2m5 : Method := { name := "ensureCapacity", desc := "(I)V", sig := { parameters := [.int], returnType := none }, accessFlags := 2, code := some k2c5 }
/-- org/arborlog/pattern/LineText -/
def k2 : Class := { plain "org/arborlog/pattern/LineText" (some 0) with
  accessFlags := 49
  interfaces := #[]
  cf := some (fileOf pool2 8 #[] #[{ accessFlags := 1, nameIndex := 5, descriptorIndex := 27, attributes := #[] }, { accessFlags := 1, nameIndex := 15, descriptorIndex := 23, attributes := #[] }, { accessFlags := 1, nameIndex := 11, descriptorIndex := 83, attributes := #[] }, { accessFlags := 1, nameIndex := 40, descriptorIndex := 86, attributes := #[] }, { accessFlags := 0, nameIndex := 89, descriptorIndex := 90, attributes := #[] }, { accessFlags := 2, nameIndex := 26, descriptorIndex := 27, attributes := #[] }] 49 2 #[] #[{ accessFlags := 2, nameIndex := 11, descriptorIndex := 12, attributes := #[] }, { accessFlags := 2, nameIndex := 15, descriptorIndex := 16, attributes := #[] }])
  fields := #[{ name := "chars", type := (.array .char), accessFlags := 2, slot := 0, constantValue := 0 }, { name := "length", type := .int, accessFlags := 2, slot := 1, constantValue := 0 }]
  methods := #[k2m0, k2m1, k2m2, k2m3, k2m4, k2m5]
  instanceTypes := #[(.array .char), .int]
  staticTypes := #[]
  resolved := Array.replicate 97 none
  statics := none }

def pool3 : Array CpInfo := pool [(2, .class_ 4), (1, u "java/lang/Object"), (0, u "<init>"), (0, u "()V"), (1, .class_ 10), (1, u "java/lang/System"), (0, u "allowSecurityManager"), (0, u "I"), (16, u "cons"), (0, u "Ljava/io/Console;"), (77, .class_ 110), (1, u "java/lang/System$CallersHolder"), (43, u "initialErrStream"), (0, u "Ljava/io/PrintStream;"), (19, u "security"), (0, u "Ljava/lang/SecurityManager;"), (31, .class_ 209), (0, u "java/lang/System$1"), (7, u "props"), (0, u "Ljava/util/Properties;"), (2, u "lineSeparator"), (0, u "Ljava/lang/String;"), (96, .class_ 321), (1, u "java/lang/System$LoggerFinder"), (5, .class_ 328), (0, u "java/lang/System$Logger"), (67, u "err"), (2, u "out"), (91, u "notSupportedJnuEncoding"), (15, u "in"), (17, u "initialIn"), (0, u "Ljava/io/InputStream;"), (35, u "bootLayer"), (0, u "Ljava/lang/ModuleLayer;"), (99, .class_ 664), (0, u "java/lang/System$2"), (9, u "NEVER"), (2, u "MAYBE"), (49, u "arraycopy"), (0, u "(Ljava/lang/Object;ILjava/lang/Object;II)V"), (72, .class_ 802), (0, u "java/lang/System$Logger$Level")] 31

def k3m0 : Method := { name := "<init>", desc := "()V", sig := { parameters := [], returnType := none }, accessFlags := 2, code := none }
def k3m1 : Method := { name := "arraycopy", desc := "(Ljava/lang/Object;ILjava/lang/Object;II)V", sig := { parameters := [(.object "java/lang/Object"), .int, (.object "java/lang/Object"), .int, .int], returnType := none }, accessFlags := 265, code := none }
/-- java/lang/System -/
def k3 : Class := { plain "java/lang/System" (some 0) with
  accessFlags := 49
  interfaces := #[]
  cf := some (fileOf pool3 8 #[.nestMembers #[319, 327, 801, 108, 663, 208]] #[{ accessFlags := 2, nameIndex := 5, descriptorIndex := 6, attributes := #[] }, { accessFlags := 265, nameIndex := 727, descriptorIndex := 728, attributes := #[] }] 49 2 #[] #[{ accessFlags := 25, nameIndex := 507, descriptorIndex := 526, attributes := #[] }, { accessFlags := 25, nameIndex := 399, descriptorIndex := 155, attributes := #[] }, { accessFlags := 25, nameIndex := 396, descriptorIndex := 155, attributes := #[] }, { accessFlags := 10, nameIndex := 525, descriptorIndex := 526, attributes := #[] }, { accessFlags := 26, nameIndex := 674, descriptorIndex := 12, attributes := #[] }, { accessFlags := 26, nameIndex := 677, descriptorIndex := 12, attributes := #[] }, { accessFlags := 10, nameIndex := 11, descriptorIndex := 12, attributes := #[] }, { accessFlags := 74, nameIndex := 175, descriptorIndex := 176, attributes := #[] }, { accessFlags := 10, nameIndex := 491, descriptorIndex := 222, attributes := #[] }, { accessFlags := 74, nameIndex := 29, descriptorIndex := 30, attributes := #[] }, { accessFlags := 74, nameIndex := 154, descriptorIndex := 155, attributes := #[] }, { accessFlags := 10, nameIndex := 217, descriptorIndex := 218, attributes := #[] }, { accessFlags := 10, nameIndex := 221, descriptorIndex := 222, attributes := #[] }, { accessFlags := 8, nameIndex := 562, descriptorIndex := 563, attributes := #[] }])
  fields := #[{ name := "in", type := (.object "java/io/InputStream"), accessFlags := 25, slot := 0, constantValue := 0 }, { name := "out", type := (.object "java/io/PrintStream"), accessFlags := 25, slot := 1, constantValue := 0 }, { name := "err", type := (.object "java/io/PrintStream"), accessFlags := 25, slot := 2, constantValue := 0 }, { name := "initialIn", type := (.object "java/io/InputStream"), accessFlags := 10, slot := 3, constantValue := 0 }, { name := "NEVER", type := .int, accessFlags := 26, slot := 4, constantValue := 0 }, { name := "MAYBE", type := .int, accessFlags := 26, slot := 5, constantValue := 0 }, { name := "allowSecurityManager", type := .int, accessFlags := 10, slot := 6, constantValue := 0 }, { name := "security", type := (.object "java/lang/SecurityManager"), accessFlags := 74, slot := 7, constantValue := 0 }, { name := "notSupportedJnuEncoding", type := (.object "java/lang/String"), accessFlags := 10, slot := 8, constantValue := 0 }, { name := "cons", type := (.object "java/io/Console"), accessFlags := 74, slot := 9, constantValue := 0 }, { name := "initialErrStream", type := (.object "java/io/PrintStream"), accessFlags := 74, slot := 10, constantValue := 0 }, { name := "props", type := (.object "java/util/Properties"), accessFlags := 10, slot := 11, constantValue := 0 }, { name := "lineSeparator", type := (.object "java/lang/String"), accessFlags := 10, slot := 12, constantValue := 0 }, { name := "bootLayer", type := (.object "java/lang/ModuleLayer"), accessFlags := 8, slot := 13, constantValue := 0 }]
  methods := #[k3m0, k3m1]
  instanceTypes := #[]
  staticTypes := #[(.object "java/io/InputStream"), (.object "java/io/PrintStream"), (.object "java/io/PrintStream"), (.object "java/io/InputStream"), .int, .int, .int, (.object "java/lang/SecurityManager"), (.object "java/lang/String"), (.object "java/io/Console"), (.object "java/io/PrintStream"), (.object "java/util/Properties"), (.object "java/lang/String"), (.object "java/lang/ModuleLayer")]
  resolved := Array.replicate 834 none
  statics := none }

def pool4 : Array CpInfo := pool [(1, .class_ 2), (0, u "java/lang/Math"), (1, .class_ 6), (1, u "java/lang/Object"), (0, u "<init>"), (0, u "()V"), (89, .class_ 100), (1, u "java/lang/Math$RandomNumberGeneratorHolder"), (71, u "negativeZeroFloatBits"), (0, u "J"), (2, u "negativeZeroDoubleBits"), (21, u "max"), (2, u "min"), (43, u "$assertionsDisabled"), (0, u "Z"), (88, u "(II)I"), (2, u "twoToTheDoubleScaleDown"), (0, u "D"), (4, u "twoToTheDoubleScaleUp"), (9, u "E"), (3, u "PI"), (2, u "TAU"), (2, u "DEGREES_TO_RADIANS"), (0, u "RADIANS_TO_DEGREES")] 94

def k4m0 : Method := { name := "<init>", desc := "()V", sig := { parameters := [], returnType := none }, accessFlags := 2, code := none }
def k4c1 : Code := { maxStack := 2, maxLocals := 2, code := jdk_29_method_65_code, exceptionTable := #[], attributes := #[] }
def k4m1 : Method := { name := "max", desc := "(II)I", sig := { parameters := [.int, .int], returnType := some .int }, accessFlags := 9, code := some k4c1 }
def k4c2 : Code := { maxStack := 2, maxLocals := 2, code := jdk_29_method_69_code, exceptionTable := #[], attributes := #[] }
def k4m2 : Method := { name := "min", desc := "(II)I", sig := { parameters := [.int, .int], returnType := some .int }, accessFlags := 9, code := some k4c2 }
/-- java/lang/Math -/
def k4 : Class := { plain "java/lang/Math" (some 0) with
  accessFlags := 49
  interfaces := #[]
  cf := some (fileOf pool4 1 #[.nestMembers #[98]] #[{ accessFlags := 2, nameIndex := 7, descriptorIndex := 8, attributes := #[] }, { accessFlags := 9, nameIndex := 198, descriptorIndex := 335, attributes := #[] }, { accessFlags := 9, nameIndex := 201, descriptorIndex := 335, attributes := #[] }] 49 4 #[] #[{ accessFlags := 25, nameIndex := 354, descriptorIndex := 339, attributes := #[] }, { accessFlags := 25, nameIndex := 358, descriptorIndex := 339, attributes := #[] }, { accessFlags := 25, nameIndex := 361, descriptorIndex := 339, attributes := #[] }, { accessFlags := 26, nameIndex := 364, descriptorIndex := 339, attributes := #[] }, { accessFlags := 26, nameIndex := 365, descriptorIndex := 339, attributes := #[] }, { accessFlags := 26, nameIndex := 172, descriptorIndex := 173, attributes := #[] }, { accessFlags := 26, nameIndex := 176, descriptorIndex := 173, attributes := #[] }, { accessFlags := 8, nameIndex := 344, descriptorIndex := 339, attributes := #[] }, { accessFlags := 8, nameIndex := 338, descriptorIndex := 339, attributes := #[] }, { accessFlags := 4120, nameIndex := 245, descriptorIndex := 246, attributes := #[] }])
  fields := #[{ name := "E", type := .double, accessFlags := 25, slot := 0, constantValue := 0 }, { name := "PI", type := .double, accessFlags := 25, slot := 1, constantValue := 0 }, { name := "TAU", type := .double, accessFlags := 25, slot := 2, constantValue := 0 }, { name := "DEGREES_TO_RADIANS", type := .double, accessFlags := 26, slot := 3, constantValue := 0 }, { name := "RADIANS_TO_DEGREES", type := .double, accessFlags := 26, slot := 4, constantValue := 0 }, { name := "negativeZeroFloatBits", type := .long, accessFlags := 26, slot := 5, constantValue := 0 }, { name := "negativeZeroDoubleBits", type := .long, accessFlags := 26, slot := 6, constantValue := 0 }, { name := "twoToTheDoubleScaleUp", type := .double, accessFlags := 8, slot := 7, constantValue := 0 }, { name := "twoToTheDoubleScaleDown", type := .double, accessFlags := 8, slot := 8, constantValue := 0 }, { name := "$assertionsDisabled", type := .boolean, accessFlags := 4120, slot := 9, constantValue := 0 }]
  methods := #[k4m0, k4m1, k4m2]
  instanceTypes := #[]
  staticTypes := #[.double, .double, .double, .double, .double, .long, .long, .double, .double, .boolean]
  resolved := Array.replicate 460 none
  statics := none }

def pool5 : Array CpInfo := pool [(2, .class_ 4), (1, u "java/lang/Object"), (0, u "<init>"), (0, u "()V"), (7, .class_ 16), (1, u "java/util/Arrays"), (57, .class_ 76), (1, u "java/util/Arrays$NaturalOrder"), (36, .class_ 115), (1, u "java/util/Arrays$LegacyMergeSort"), (1, u "Z"), (32, .methodref 151 152), (0, .class_ 153), (0, .nameAndType 154 155), (0, u "java/lang/System"), (0, u "arraycopy"), (0, u "(Ljava/lang/Object;ILjava/lang/Object;II)V"), (146, u "copyOf"), (1, .methodref 305 306), (0, .class_ 307), (0, .nameAndType 308 309), (0, u "java/lang/Math"), (0, u "min"), (0, u "(II)I"), (65, .class_ 376), (0, u "java/util/Arrays$ArrayList"), (68, u "$assertionsDisabled"), (269, u "MIN_ARRAY_SORT_GRAN"), (0, u "I"), (2, u "INSERTIONSORT_THRESHOLD"), (153, u "([CI)[C"), (101, .class_ 976), (0, u "java/util/Arrays$ArrayItr")] 52

def k5m0 : Method := { name := "<init>", desc := "()V", sig := { parameters := [], returnType := none }, accessFlags := 2, code := none }
def k5c1 : Code := { maxStack := 6, maxLocals := 3, code := jdk_65_method_125_code, exceptionTable := #[], attributes := #[] }
def k5m1 : Method := { name := "copyOf", desc := "([CI)[C", sig := { parameters := [(.array .char), .int], returnType := some (.array .char) }, accessFlags := 9, code := some k5c1 }
/-- java/util/Arrays -/
def k5 : Class := { plain "java/util/Arrays" (some 0) with
  accessFlags := 49
  interfaces := #[]
  cf := some (fileOf pool5 14 #[.nestMembers #[975, 375, 113, 74]] #[{ accessFlags := 2, nameIndex := 5, descriptorIndex := 6, attributes := #[] }, { accessFlags := 9, nameIndex := 302, descriptorIndex := 873, attributes := #[] }] 49 2 #[] #[{ accessFlags := 26, nameIndex := 715, descriptorIndex := 716, attributes := #[] }, { accessFlags := 26, nameIndex := 719, descriptorIndex := 716, attributes := #[] }, { accessFlags := 4120, nameIndex := 445, descriptorIndex := 117, attributes := #[] }])
  fields := #[{ name := "MIN_ARRAY_SORT_GRAN", type := .int, accessFlags := 26, slot := 0, constantValue := 0 }, { name := "INSERTIONSORT_THRESHOLD", type := .int, accessFlags := 26, slot := 1, constantValue := 0 }, { name := "$assertionsDisabled", type := .boolean, accessFlags := 4120, slot := 2, constantValue := 0 }]
  methods := #[k5m0, k5m1]
  instanceTypes := #[]
  staticTypes := #[.int, .int, .boolean]
  resolved := Array.replicate 1029 none
  statics := none }

def pool6 : Array CpInfo := pool [(1, u "java/lang/Cloneable"), (0, .class_ 1), (0, u "java/lang/Object"), (0, .class_ 3)] 3

/-- java/lang/Cloneable -/
def k6 : Class := { plain "java/lang/Cloneable" (some 0) with
  accessFlags := 1537
  interfaces := #[]
  cf := some (fileOf pool6 2 #[] #[] 1537 4 #[] #[])
  fields := #[]
  methods := #[]
  instanceTypes := #[]
  staticTypes := #[]
  resolved := Array.replicate 8 none
  statics := none }

def pool7 : Array CpInfo := pool [(1, u "java/io/Serializable"), (0, .class_ 1), (0, u "java/lang/Object"), (0, .class_ 3)] 3

/-- java/io/Serializable -/
def k7 : Class := { plain "java/io/Serializable" (some 0) with
  accessFlags := 1537
  interfaces := #[]
  cf := some (fileOf pool7 2 #[] #[] 1537 4 #[] #[])
  fields := #[]
  methods := #[]
  instanceTypes := #[]
  staticTypes := #[]
  resolved := Array.replicate 8 none
  statics := none }

/-- the primitive byte -/
def k8 : Class := { plain "byte" none with kind := .primitive 'B', accessFlags := 0x411 }
/-- [B -/
def k9 : Class := { plain "[B" (some 0) with kind := .array 8 .byte, interfaces := #[6, 7], accessFlags := 1041 }

/-- the primitive char -/
def k10 : Class := { plain "char" none with kind := .primitive 'C', accessFlags := 0x411 }
/-- [C -/
def k11 : Class := { plain "[C" (some 0) with kind := .array 10 .char, interfaces := #[6, 7], accessFlags := 1041 }

/-- the primitive int -/
def k12 : Class := { plain "int" none with kind := .primitive 'I', accessFlags := 0x411 }
/-- [I -/
def k13 : Class := { plain "[I" (some 0) with kind := .array 12 .int, interfaces := #[6, 7], accessFlags := 1041 }

def heap : Heap := #[]
def classes : Array Class := #[k0, k1, k2, k3, k4, k5, k6, k7, k8, k9, k10, k11, k12, k13]
def interned : List (Array UInt16 × Addr) := []
def slotsUsed : Nat := 0
def theMethod : MethodId := ⟨1, 3⟩
def args0 : Array Value := #[.int 5, .int 5, .int 5, .int 5, .int 5, .int 5]
def aboutOver (below : List Frame) : State where
  vm := { classes := classes, interned := interned.toArray }
  heap := heap
  slotsUsed := slotsUsed
  threads := #[{ frames := .invoking theMethod args0 :: below }]
def below0 : List Frame := [.native { method := ⟨0, 0⟩, args := #[] }]
def about1 : State := aboutOver below0
def p0 : Program := .bare "" "" ""
def e0 : Env := launch0.env 0 0 0
theorem w_frames : about1.frames = Frame.invoking theMethod args0 :: below0 := rfl
set_option maxRecDepth 65536 in
theorem w_args : argsFit about1.vm theMethod args0 = true := by decide +kernel
set_option maxRecDepth 65536 in
theorem w_heap : heapFits about1 = true := by decide +kernel
set_option maxRecDepth 65536 in
theorem w_runnable : about1.curStatus? = some .runnable := by decide +kernel
set_option maxRecDepth 65536 in
theorem w_alone : about1.alone = true := by decide +kernel
set_option maxRecDepth 65536 in
theorem w_named : about1.methodNamed? x = some theMethod := by decide +kernel
set_option maxRecDepth 65536 in
theorem w_hears : about1.hears theMethod below0 = true := by decide +kernel
set_option maxRecDepth 65536 in
theorem w_ripe : about1.ripe theMethod args0 below0 = true := by decide +kernel
theorem w_running : about1.status = .running := rfl
set_option maxRecDepth 65536 in
theorem w_room : about1.hasRoom e0.platform room_1 = true :=
  launch0.hasRoom_least _ room_1 (by decide +kernel) (by decide +kernel) (by decide +kernel) (by decide +kernel) (by decide +kernel) (by decide +kernel)
theorem allAtoms_all (ts : List Jvm.Cond) (a : Array Jvm.Value) (st : Jvm.State) : (allAtoms ts).before a st = ts.all (fun c => c.before a st) := by
  induction ts with
  | nil => rfl
  | cons c t ih =>
    show (Jvm.Cond.and c (allAtoms t)).before a st = _
    rw [Jvm.Cond.before_and, ih, List.all_cons]
def words1 : List Jvm.Cond := Jvm.Cond.code x code maxLocals ret :: tables_1
/-- a 'code' word, met by the world's own term for the bytes: nothing is compared byte by byte -/
theorem code_word {y : MethodName} {bytes : ByteArray} {mx : Nat} {rt : Option FieldType} {a : Array Value} {s : State} {m : MethodId} {meth : Method} {c : Code} (h1 : s.methodNamed? y = some m) (h2 : s.vm.method? m = some meth) (h3 : meth.code = some c) (h4 : c.code = bytes)
    (h5 : (c.maxLocals == mx && c.exceptionTable.isEmpty && decide (c.maxStack ≤ mostOperands) && decide (meth.sig.returnType = rt) && !meth.locks && decide (parseMethodDescriptor y.desc = some meth.sig)) = true) : (Jvm.Cond.code y bytes mx rt).before a s = true := by
  simp only [Bool.and_eq_true, beq_iff_eq, Bool.not_eq_true', decide_eq_true_eq] at h5
  obtain ⟨⟨⟨⟨⟨g1, g2⟩, g3⟩, g4⟩, g5⟩, g6⟩ := h5
  simp [Cond.before, Cond.holds, Cond.value, h1, h2, h3, h4, g1, g2, g3, g4, g5, g6]
def isCode : Jvm.Cond → Bool
  | .code _ _ _ _ => true
  | _ => false
theorem all_split {L : List Jvm.Cond} {P : Jvm.Cond → Bool} (h1 : L.all (fun c => isCode c || P c) = true) (h2 : ∀ c ∈ L.filter isCode, P c = true) : L.all P = true := by
  refine List.all_eq_true.mpr fun c hc => ?_
  have h := List.all_eq_true.mp h1 c hc
  rcases Bool.eq_false_or_eq_true (isCode c) with hi | hi
  · exact h2 c (List.mem_filter.mpr ⟨hc, hi⟩)
  · simpa [hi] using h
set_option maxRecDepth 65536 in
theorem w_c0 : (Jvm.Cond.code x code maxLocals ret).before args0 about1 = true := code_word (m := ⟨1, 3⟩) (meth := k1m3) (c := k1c3) (by decide +kernel) rfl rfl rfl (by decide +kernel)
set_option maxRecDepth 65536 in
theorem w_c1 : (Jvm.Cond.code ({ cls := "org/arborlog/pattern/LineText", name := "<init>", desc := "(I)V" } : Jvm.MethodName) prog_20_method_1_code (2 : Nat) (Option.none : Option Jvm.ClassFile.FieldType)).before args0 about1 = true := code_word (m := ⟨2, 0⟩) (meth := k2m0) (c := k2c0) (by decide +kernel) rfl rfl rfl (by decide +kernel)
set_option maxRecDepth 65536 in
theorem w_c2 : (Jvm.Cond.code ({ cls := "java/lang/Object", name := "<init>", desc := "()V" } : Jvm.MethodName) object_method_1_code (1 : Nat) (Option.none : Option Jvm.ClassFile.FieldType)).before args0 about1 = true := code_word (m := ⟨0, 0⟩) (meth := k0m0) (c := k0c0) (by decide +kernel) rfl rfl rfl (by decide +kernel)
set_option maxRecDepth 65536 in
theorem w_c3 : (Jvm.Cond.code ({ cls := "org/arborlog/pattern/LineText", name := "delete", desc := "(II)V" } : Jvm.MethodName) prog_20_method_10_code (3 : Nat) (Option.none : Option Jvm.ClassFile.FieldType)).before args0 about1 = true := code_word (m := ⟨2, 4⟩) (meth := k2m4) (c := k2c4) (by decide +kernel) rfl rfl rfl (by decide +kernel)
set_option maxRecDepth 65536 in
theorem w_c4 : (Jvm.Cond.code ({ cls := "org/arborlog/pattern/LineText", name := "length", desc := "()I" } : Jvm.MethodName) prog_20_method_2_code (1 : Nat) (Option.some Jvm.ClassFile.FieldType.int)).before args0 about1 = true := code_word (m := ⟨2, 1⟩) (meth := k2m1) (c := k2c1) (by decide +kernel) rfl rfl rfl (by decide +kernel)
set_option maxRecDepth 65536 in
theorem w_c5 : (Jvm.Cond.code ({ cls := "org/arborlog/pattern/LineText", name := "chars", desc := "()[C" } : Jvm.MethodName) prog_20_method_4_code (1 : Nat) (Option.some (Jvm.ClassFile.FieldType.array Jvm.ClassFile.FieldType.char))).before args0 about1 = true := code_word (m := ⟨2, 2⟩) (meth := k2m2) (c := k2c2) (by decide +kernel) rfl rfl rfl (by decide +kernel)
set_option maxRecDepth 65536 in
theorem w_c6 : (Jvm.Cond.code ({ cls := "org/arborlog/pattern/LineTextDeletePinLaw", name := "slotOk", desc := "([C[CIIII)Z" } : Jvm.MethodName) method_3_code (6 : Nat) (Option.some Jvm.ClassFile.FieldType.boolean)).before args0 about1 = true := code_word (m := ⟨1, 2⟩) (meth := k1m2) (c := k1c2) (by decide +kernel) rfl rfl rfl (by decide +kernel)
set_option maxRecDepth 65536 in
theorem w_c7 : (Jvm.Cond.code ({ cls := "org/arborlog/pattern/LineText", name := "append", desc := "(C)Lorg/arborlog/pattern/LineText;" } : Jvm.MethodName) prog_20_method_7_code (2 : Nat) (Option.some (Jvm.ClassFile.FieldType.object "org/arborlog/pattern/LineText"))).before args0 about1 = true := code_word (m := ⟨2, 3⟩) (meth := k2m3) (c := k2c3) (by decide +kernel) rfl rfl rfl (by decide +kernel)
set_option maxRecDepth 65536 in
theorem w_c8 : (Jvm.Cond.code ({ cls := "org/arborlog/pattern/LineText", name := "ensureCapacity", desc := "(I)V" } : Jvm.MethodName) prog_20_method_14_code (2 : Nat) (Option.none : Option Jvm.ClassFile.FieldType)).before args0 about1 = true := code_word (m := ⟨2, 5⟩) (meth := k2m5) (c := k2c5) (by decide +kernel) rfl rfl rfl (by decide +kernel)
set_option maxRecDepth 65536 in
theorem w_c9 : (Jvm.Cond.code ({ cls := "java/lang/Math", name := "max", desc := "(II)I" } : Jvm.MethodName) jdk_29_method_65_code (2 : Nat) (Option.some Jvm.ClassFile.FieldType.int)).before args0 about1 = true := code_word (m := ⟨4, 1⟩) (meth := k4m1) (c := k4c1) (by decide +kernel) rfl rfl rfl (by decide +kernel)
set_option maxRecDepth 65536 in
theorem w_c10 : (Jvm.Cond.code ({ cls := "java/util/Arrays", name := "copyOf", desc := "([CI)[C" } : Jvm.MethodName) jdk_65_method_125_code (3 : Nat) (Option.some (Jvm.ClassFile.FieldType.array Jvm.ClassFile.FieldType.char))).before args0 about1 = true := code_word (m := ⟨5, 1⟩) (meth := k5m1) (c := k5c1) (by decide +kernel) rfl rfl rfl (by decide +kernel)
set_option maxRecDepth 65536 in
theorem w_c11 : (Jvm.Cond.code ({ cls := "java/lang/Math", name := "min", desc := "(II)I" } : Jvm.MethodName) jdk_29_method_69_code (2 : Nat) (Option.some Jvm.ClassFile.FieldType.int)).before args0 about1 = true := code_word (m := ⟨4, 2⟩) (meth := k4m2) (c := k4c2) (by decide +kernel) rfl rfl rfl (by decide +kernel)
set_option maxRecDepth 65536 in
theorem w_c12 : (Jvm.Cond.code ({ cls := "org/arborlog/pattern/LineTextDeletePinLaw", name := "expect", desc := "([CIII)C" } : Jvm.MethodName) method_2_code (4 : Nat) (Option.some Jvm.ClassFile.FieldType.char)).before args0 about1 = true := code_word (m := ⟨1, 1⟩) (meth := k1m1) (c := k1c1) (by decide +kernel) rfl rfl rfl (by decide +kernel)
def codes1 : List Jvm.Cond := [Jvm.Cond.code x code maxLocals ret, Jvm.Cond.code ({ cls := "org/arborlog/pattern/LineText", name := "<init>", desc := "(I)V" } : Jvm.MethodName) prog_20_method_1_code (2 : Nat) (Option.none : Option Jvm.ClassFile.FieldType), Jvm.Cond.code ({ cls := "java/lang/Object", name := "<init>", desc := "()V" } : Jvm.MethodName) object_method_1_code (1 : Nat) (Option.none : Option Jvm.ClassFile.FieldType), Jvm.Cond.code ({ cls := "org/arborlog/pattern/LineText", name := "delete", desc := "(II)V" } : Jvm.MethodName) prog_20_method_10_code (3 : Nat) (Option.none : Option Jvm.ClassFile.FieldType), Jvm.Cond.code ({ cls := "org/arborlog/pattern/LineText", name := "length", desc := "()I" } : Jvm.MethodName) prog_20_method_2_code (1 : Nat) (Option.some Jvm.ClassFile.FieldType.int), Jvm.Cond.code ({ cls := "org/arborlog/pattern/LineText", name := "chars", desc := "()[C" } : Jvm.MethodName) prog_20_method_4_code (1 : Nat) (Option.some (Jvm.ClassFile.FieldType.array Jvm.ClassFile.FieldType.char)), Jvm.Cond.code ({ cls := "org/arborlog/pattern/LineTextDeletePinLaw", name := "slotOk", desc := "([C[CIIII)Z" } : Jvm.MethodName) method_3_code (6 : Nat) (Option.some Jvm.ClassFile.FieldType.boolean), Jvm.Cond.code ({ cls := "org/arborlog/pattern/LineText", name := "append", desc := "(C)Lorg/arborlog/pattern/LineText;" } : Jvm.MethodName) prog_20_method_7_code (2 : Nat) (Option.some (Jvm.ClassFile.FieldType.object "org/arborlog/pattern/LineText")), Jvm.Cond.code ({ cls := "org/arborlog/pattern/LineText", name := "ensureCapacity", desc := "(I)V" } : Jvm.MethodName) prog_20_method_14_code (2 : Nat) (Option.none : Option Jvm.ClassFile.FieldType), Jvm.Cond.code ({ cls := "java/lang/Math", name := "max", desc := "(II)I" } : Jvm.MethodName) jdk_29_method_65_code (2 : Nat) (Option.some Jvm.ClassFile.FieldType.int), Jvm.Cond.code ({ cls := "java/util/Arrays", name := "copyOf", desc := "([CI)[C" } : Jvm.MethodName) jdk_65_method_125_code (3 : Nat) (Option.some (Jvm.ClassFile.FieldType.array Jvm.ClassFile.FieldType.char)), Jvm.Cond.code ({ cls := "java/lang/Math", name := "min", desc := "(II)I" } : Jvm.MethodName) jdk_29_method_69_code (2 : Nat) (Option.some Jvm.ClassFile.FieldType.int), Jvm.Cond.code ({ cls := "org/arborlog/pattern/LineTextDeletePinLaw", name := "expect", desc := "([CIII)C" } : Jvm.MethodName) method_2_code (4 : Nat) (Option.some Jvm.ClassFile.FieldType.char)]
set_option maxRecDepth 65536 in
theorem codes_eq : words1.filter isCode = codes1 := rfl
theorem w_codes : ∀ c ∈ words1.filter isCode, c.before args0 about1 = true := by
  rw [codes_eq]
  intro c hc
  simp only [codes1, List.mem_cons, List.not_mem_nil, or_false] at hc
  rcases hc with rfl | rfl | rfl | rfl | rfl | rfl | rfl | rfl | rfl | rfl | rfl | rfl | rfl
  · exact w_c0
  · exact w_c1
  · exact w_c2
  · exact w_c3
  · exact w_c4
  · exact w_c5
  · exact w_c6
  · exact w_c7
  · exact w_c8
  · exact w_c9
  · exact w_c10
  · exact w_c11
  · exact w_c12
set_option maxRecDepth 65536 in
theorem w_t1 : (words1.take 24).all (fun c => isCode c || c.before args0 about1) = true := by decide +kernel
set_option maxRecDepth 65536 in
theorem w_t2 : ((words1.drop 24).take 24).all (fun c => isCode c || c.before args0 about1) = true := by decide +kernel
set_option maxRecDepth 65536 in
theorem w_t3 : ((words1.drop 24).drop 24).all (fun c => isCode c || c.before args0 about1) = true := by decide +kernel
theorem w_tables : (allAtoms (Jvm.Cond.code x code maxLocals ret :: tables_1)).before args0 about1 = true := by
  rw [allAtoms_all]
  show words1.all (fun c => c.before args0 about1) = true
  refine all_split ?_ w_codes
  rw [← List.take_append_drop 24 words1, List.all_append, w_t1, ← List.take_append_drop 24 (words1.drop 24), List.all_append, w_t2, w_t3]
  rfl
set_option maxRecDepth 65536 in
theorem w_case : (Jvm.Cond.and given_1 narrow_1).before args0 about1 = true := by decide +kernel
theorem w_applies : (headSpec (Jvm.Cond.code x code maxLocals ret :: tables_1) room_1).applies x e0.platform about1 = true :=
  (Spec.applies_iff w_frames).mpr ⟨w_running, w_runnable, w_alone, w_named, w_hears, w_ripe, w_room, w_tables⟩
theorem atStart : AtStart classFile x code maxLocals ret World_1 tables_1 room_1 Calls_1 rest_1 Pre_1 launch0 p0 e0 about1 theMethod args0 below0 :=
  ⟨lists_1, trivial, launch0.admits_env _ _ _, launch0.least_env, fairChoices_fair.cas, fairChoices_fair.clock, w_frames, w_args, w_heap, w_applies, trivial, trivial, w_case⟩
end start1
theorem witness_1 : WitnessClaimed_1 := ⟨start1.p0, start1.e0, start1.about1, start1.theMethod, start1.args0, start1.below0, start1.atStart⟩
end Jvm.Pilot.@@N@@
